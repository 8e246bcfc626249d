import PyProof.Rows.All
import Wide.All
import OpenK.AllK
import Wide.FinOn
import PyProof.NoPylong
import Lean
import PySem.Challenge.RW_te0006_01
set_option Elab.async false
set_option linter.all false
set_option bootstrap.genMatcherCode false
set_option genSizeOf false
set_option genInjectivity false
set_option genCtorIdx false
set_option tactic.hygienic false
set_option maxRecDepth 100000
open Array renaming toList→C5,length_toList→Da,getElem?_eq_some_iff→E0
open Bool renaming and_eq_true_iff→AP,false_ne_true→AS,and_eq_true→BV,false_eq_true→Cm,or_eq_true→Du,not_eq_true'→Ee
open Char renaming toNat→Gk
open Exists renaming elim→AA,imp→Ae
open ForInStep renaming yield→DP
open Int renaming natCast_nonneg→Ck,toNat→E9,toNat_of_nonneg→FQ,ofNat_lt→Ff,not_lt→Fv,le_trans→Gi
open List renaming length→A9,append_assoc→AB,map→AC,toArray→AE,length_append→AF,length_map→AH,getElem?_eq_some_iff→AI,append_nil→AK,length_cons→AQ,mem_append_right→AX,mem_cons→AZ,map_append→Aa,take→Ab,mem_singleton→Ac,getElem?_map→Aj,map_cons→An,size_toArray→Au,cons_append→B0,all_eq_true→B1,mem_append_left→B3,getElem?_set_ne→B7,mem_append→BB,perm_append_comm_assoc→BE,not_mem_nil→BH,mem_map_of_mem→BO,length_nil→BR,length_singleton→BZ,set→Bb,lookup_cons→Bc,drop_drop→Be,mem_map→Bq,length_eq_zero_iff→By,getElem?_append_right→C2,getD_eq_getElem?_getD→C3,nodup_cons→C4,getElem?_append_left→C6,nodup_append→CC,Perm→CK,isEmpty_iff→CP,getElem?_eq_none→Cc,length_drop→Ci,getElem?_drop→Cj,length_set→D0,forIn_cons→D1,take_append_drop→DF,map_map→DN,getElem?_eq_getElem→DO,all_cons→DW,flatten_append→DZ,mem_range→Dg,nil_append→Dr,contains_iff_mem→Ds,reverse→EG,append_cons→EH,map_congr_left→EL,take_of_length_le→EX,getElem?_set_self→EY,getElem?_set→Ed,nodup_nil→Er,reverse_reverse→F6,take_nil→FJ,append→FL,length_pos_iff→FP,set_set→Fd,range→Ft,drop_left→Fu,flatten_cons→G4
open List.Perm renaming append_left→DG
open List.cons renaming inj→Bj
open Nat renaming le_trans→AM,le_refl→Ak,lt_of_lt_of_le→Am,ne_of_lt→As,le_add_right→BM,add_assoc→BP,le_of_lt→BU,le_add_left→BW,zero_le→BX,add_comm→BY,le_of_ble_eq_true→Bg,lt_of_le_of_lt→Bk,le_of_eq→Bp,beq→C1,lt_irrefl→CD,zero_add→CS,ne_of_gt→CT,le_succ_of_le→Cw,ble→D4,add_le_add→DD,lt_of_succ_lt_succ→Dk,eq_of_beq_eq_true→Dq,add_zero→EF,min_eq_left→ES,sub_self→Ep,succ_le_succ→F5,add_le_add_left→FO,le_antisymm→FT,lt_trans→Fc,not_lt→Fs,le_of_succ_le→G3,not_le→Gh
open Ne renaming symm→DS
open Option renaming bind_eq_some_iff→Af,map_eq_some_iff→Ar,isSome_iff_exists→Bw,some_ne_none→FN
open Option.some renaming inj→AG
open PUnit renaming unit→Fq
open Prod renaming fst→Fa
open Pure renaming pure→Bn
open PyProof.Rows renaming subscriptTail→DU
open PySem renaming wpAny_bind→AD,wpAny_pure→AJ,NameKind→Aq,wpAny_holding→BA,codeAny→Bl,wpAny_mono→Br,holding→Bx,wpAny_standAt→Bz,Program→C0,DictEntry→C8,keywordEach→CG,compareOp→CJ,sizeLine→CM,cellsFrom→Ch,mainGlobals→Cn,sysModules→Cp,standAt→D3,Builtin→DI,starEach→DK,backToKw→DM,strKind→Db,wpAny_of_eq→Dh,intKind→Dp,binaryOp→Dy,pairTrees→E7,isSubtype→FY,typeIs_str→Fh,recursionLimit→Fi,wpAny_truthy_bool→G0,wpAny_field→G7
open PySem.Around renaming frames_deeper→E6
open PySem.Heap renaming lt_size→B4,get?_push_of_some→BN,SameBut→Bd,get?_update_self→DH,get?_update_other→Dl,dictOf_iff→Dt
open PySem.Keeper renaming boundFrame→G5
open PySem.NameKind renaming free→Bu,cell→D9,globalImplicit→EN
open PySem.Obj renaming mapFields→FH,data_mapFields→Fb
open PySem.PyData renaming keyHash→De
open PySem.Str renaming ofString→A8,join→DB
open PySem.Txt renaming contains→BL
open PySem.Value.ref renaming inj→GH
open PySem.W renaming hasDictIn→Eu
open PySem PySem.W PySem.Calls PyProof.Rows
namespace Mine.Internal
inductive V where
 |none|undef
 |bool (b:Bool)|int (i:Int)|str (s:Str)
 |txt
 |tup (xs:List V)
 |rcd (c:Nat) (fs:List (Str×V))
 |obj (i:Nat)|fn (f:Nat)|cls (c:Nat)|sta (n:Nat)
 |rng (a b:Int)
 |bi (id:String)|ty (n:String)
 |cref (i:Nat)
inductive O where
 |inst (c:Nat) (fs:List (Str×V))
 |list (xs:List V)
 |dict (es:List (V×V))
 |fro (es:List (V×V))
 |cell (v:V)
 |sdict (es:List (V×V))
 |exc (c:Nat)
 |dead
 |void
structure St where
 loc:List (Str×V)
 heap:List O
inductive Fl where
 |next|brk|cont|ret (v:V)
inductive CA where
 |free|fn (f:Nat)|sta (n:Nat)
set_option genCtorIdx true in
inductive bX where
 |rcd|self|exc
structure Fn where
 params:List Str
 dflts:List V
 body:List Stmt
 scope:Scope
 sup:Option (Nat×Nat):=none
structure Fz where
 kind:bX
 init:Nat
 attrs:List (Str×CA)
structure BD where
 fns:Nat→Option Fn
 cls:Nat→Option Fz
 glob:Str→Option V
 sta:Nat→O
inductive It where
 |list (i:Nat) (en:Bool)
 |str (s:Str) (en:Bool)
 |rng (a b:Int)
 |dict (i:Nat)
set_option genCtorIdx true in
inductive U where
 |nat|vals|strs|ob|val|oval|ents|bool
@[reducible] def U.T:U→Type
 | .nat=>Nat
 | .vals=>List V
 | .strs=>List Str
 | .ob=>O
 | .val=>V
 | .oval=>Option V
 | .ents=>List (V×V)
 | .bool=>Bool
inductive Ay where
 |none
 |ret (r:Except V V) (h:List O)
 |ite (b:Bool) (x y:Ay)
 |opt (u:U) (a:Option u.T) (k:u.T→Ay)
 |call (d f:Nat) (vs:List V) (kws:List (Str×V)) (h:List O) (k e:V→List O→Ay)
 |whl (d:Nat) (t:Expr) (b:List Stmt) (s:St) (k:Fl→St→Ay) (e:V→St→Ay)
 |frl (d:Nat) (t:Expr) (it:It) (j:Nat) (b:List Stmt) (s:St) (k:Fl→St→Ay) (e:V→St→Ay)
 |cmp (d:Nat) (elt t:Expr) (ifs:List Expr) (it:It) (j i:Nat) (s:St) (k:Unit→St→Ay) (e:V→St→Ay)
noncomputable def M (α:Type):=St→(α→St→Ay)→(V→St→Ay)→Ay
noncomputable def M.pure {α:Type}(a:α):M α:=fun s k e=>k a s
noncomputable def M.bind {α β:Type}(m:M α)(f:α→M β):M β:=fun s k e=>m s (fun a s=>f a s k e) e
noncomputable def stuck {α:Type}:M α:=fun zz zz zz=>.none
noncomputable def Ej {α:Type}(b:Bool)(x y:M α):M α:=fun s k e=>.ite b (x s k e) (y s k e)
noncomputable def aK {α:Type}(b:Bool)(x y:M α):M α:=fun s k e=>bif b then x s k e else y s k e
noncomputable def req {α:Type}(b:Bool)(x:M α):M α:=Ej b x stuck
noncomputable def chk {α:Type}(b:Bool)(x:M α):M α:=aK b x stuck
noncomputable def oB {α:Type}(o:Option α)(f:α→Ay):Ay:=match o with
 |some a=>f a
 |none=>.none
noncomputable def B2 {α:Type}(o:Option α):M α:=fun s k zz=>oB o fun a=>k a s
noncomputable def dyn (u:U)(o:Option u.T):M u.T:=fun s k zz=>.opt u o fun a=>k a s
noncomputable def Tm {α β:Type}(o:Option α)(n:M β)(f:α→M β):M β:=fun s k e=>match o with
 |some a=>f a s k e
 |none=>n s k e
noncomputable abbrev HM:=List O→(V→List O→Ay)→(V→List O→Ay)→Ay
noncomputable def LB (f:HM):M V:=fun s k e=>f s.heap (fun v h=>k v ⟨s.loc,h⟩) (fun x h=>e x ⟨s.loc,h⟩)
noncomputable def Co (x:Str):List (Str×V)→Option V
 |[]=>none
 |(y,v)::l=>if x=y then some v else Co x l
noncomputable def Kp (x:Str)(v:V):List (Str×V)→List (Str×V)
 |[]=>[]
 |(y,u)::l=>if x=y then(y,v)::l else(y,u)::Kp x v l
noncomputable def put (x:Str)(v:V):List (Str×V)→List (Str×V)
 |[]=>[(x,v)]
 |(y,u)::l=>if x=y then(y,v)::l else(y,u)::put x v l
theorem GC (x:Str)(p:Str×V)(l:List (Str×V)):Co x (p::l)=if x=p.1 then some p.2 else Co x l:=rfl
theorem ZH (x:Str)(v:V)(p:Str×V)(l:List (Str×V)):put x v (p::l)=if x=p.1 then(p.1,v)::l else(p.1,p.2)::put x v l:=rfl
theorem Yx (x:Str)(v:V)(p:Str×V)(l:List (Str×V)):Kp x v (p::l)=if x=p.1 then(p.1,v)::l else(p.1,p.2)::Kp x v l:=rfl
set_option backward.match.sparseCases false in
noncomputable def HO:V→Bool
 | .fn _=>true
 | .cls _=>true
 | .sta _=>true
 | .bi _=>true
 | .ty _=>true
 |_=>false
set_option backward.match.sparseCases false in
noncomputable def Ms:V→Bool
 | .undef=>true
 |_=>false
set_option backward.match.sparseCases false in
noncomputable def IR:V→Bool
 | .none=>true
 |_=>false
set_option backward.match.sparseCases false in
noncomputable def DJ:V→Option Int
 | .int i=>some i
 |_=>none
set_option backward.match.sparseCases false in
noncomputable def D7:V→Option Str
 | .str s=>some s
 |_=>none
set_option backward.match.sparseCases false in
noncomputable def Pk:V→Option Bool
 | .bool b=>some b
 |_=>none
set_option backward.match.sparseCases false in
noncomputable def GS:V→Option Nat
 | .obj i=>some i
 |_=>none
set_option backward.match.sparseCases false in
noncomputable def Ld:V→Option (List V)
 | .tup xs=>some xs
 |_=>none
set_option backward.match.sparseCases false in
noncomputable def Lf:V→Option Nat
 | .cref i=>some i
 |_=>none
set_option backward.match.sparseCases false in
noncomputable def oL:O→Option (List V)
 | .list xs=>some xs
 |_=>none
set_option backward.match.sparseCases false in
noncomputable def oD:O→Option (List (V×V))
 | .dict es=>some es
 |_=>none
set_option backward.match.sparseCases false in
noncomputable def oF:O→Option (List (V×V))
 | .fro es=>some es
 |_=>none
set_option backward.match.sparseCases false in
noncomputable def oI:O→Option (Nat×List (Str×V))
 | .inst c fs=>some (c,fs)
 |_=>none
set_option backward.match.sparseCases false in
noncomputable def oC:O→Option V
 | .cell v=>some v
 |_=>none
noncomputable def QX (v:V):Option V:=if Ms v=true then none else some v
set_option backward.match.sparseCases false in
noncomputable def N7 (h:List O)(i:Nat)(f:O→Ay):Ay:=match i,h with
 |0,o::_=>f o
 |i,h=>.opt .ob h[i]? f
noncomputable def rd {α:Type}(p:O→Option α)(i:Nat):M α:=fun s k zz=>N7 s.heap i fun o=>oB (p o) fun x=>k x s
noncomputable def Gu (i:Nat)(o:O):M Unit:=fun s k zz=>k () ⟨s.loc,s.heap.set i o⟩
noncomputable def GK (o:O):M V:=fun s k zz=>k (.obj s.heap.length) ⟨s.loc,s.heap++[o]⟩
noncomputable def E3 (x:Str):M V:=fun s k zz=>oB (Co x s.loc) fun v=>match Lf v with
 |some i=>N7 s.heap i fun o=>oB (oC o) fun w=>oB (QX w) fun v=>k v s
 |none=>oB (QX v) fun v=>k v s
noncomputable def Az:V→Bool
 | .cref _=>false
 |v=> !HO v
noncomputable def GX (u v:V):Bool:=Az u&& !HO v
noncomputable def FB (x:Str)(v:V):M Unit:=fun s k zz=>oB (Co x s.loc) fun u=>.ite (GX u v) (k () ⟨Kp x v s.loc,s.heap⟩) (oB (Lf u) fun i=>N7 s.heap i fun o=>oB (oC o) fun zz=>k () ⟨s.loc,s.heap.set i (.cell v)⟩)
set_option backward.match.sparseCases false in
noncomputable def Hw:Const→Option V
 | .none=>some .none
 | .bool b=>some (.bool b)
 | .int i=>some (.int i)
 | .str s=>some (.str s)
 |_=>none
noncomputable def lim:Nat:=1000000
noncomputable def BF (n:Nat):Bool:=D4 n lim
set_option backward.match.sparseCases false in
noncomputable def IN (S:BD):V→M Bool
 | .none=>.pure false
 | .bool b=>.pure b
 | .int i=>.pure (decide (i≠0))
 | .str s=>req (BF s.cps.size) (.pure (decide (s.cps.size≠0)))
 | .obj i=>(rd oL i).bind fun xs=>req (BF xs.length) (.pure (decide (xs.length≠0)))
 | .sta n=>(B2 (oL (S.sta n))).bind fun xs=>req (BF xs.length) (.pure (decide (xs.length≠0)))
 |_=>stuck
set_option backward.match.sparseCases false in
noncomputable def Lq:V→V→Option Bool
 | .int a,b=>(DJ b).map fun b=>decide (a=b)
 | .str a,b=>(D7 b).map fun b=>decide (a=b)
 | .none,b=>(DJ b).map fun zz=>false
 |_,_=>none
set_option backward.match.sparseCases false in
noncomputable def Lh (f:V→V→Option Bool):List V→List V→Option Bool
 |[],[]=>some true
 |a::as,b::bs=>(f a b).bind fun r=>bif r then Lh f as bs else none
 |_,_=>none
noncomputable def IF (a b:V):Option Bool:=match Ld a with
 |some as=>(Ld b).bind fun bs=>Lh Lq as bs
 |none=>Lq a b
noncomputable def Y9 (a b:V):M Bool:=match GS a with
 |some i=>(B2 (GS b)).bind fun j=>(rd oL i).bind fun xs=>(rd oL j).bind fun ys=>dyn .bool (Lh IF xs ys)
 |none=>match Ld a with
  |some _=>dyn .bool (IF a b)
  |none=>B2 (IF a b)
noncomputable def Ai (n:Nat):V:=.str ⟨#[n]⟩
noncomputable def MT {K:Type}[DecidableEq K](as:V→Option K)(k:K):List V→Option Bool
 |[]=>some false
 |x::xs=>(as x).bind fun j=>(MT as k xs).map fun b=>decide (j=k)||b
noncomputable def Hx (a:V)(xs:List V):Option Bool:=match DJ a with
 |some i=>MT DJ i xs
 |none=>(D7 a).bind fun s=>MT D7 s xs
noncomputable def EK {K:Type}[DecidableEq K](as:V→Option K)(k:K):List (V×V)→Option (Option V)
 |[]=>some none
 |p::r=>(as p.1).bind fun j=>if j=k then some (some p.2) else EK as k r
theorem Jx {K:Type}[DecidableEq K](as:V→Option K)(k:K)(p:V×V)(r:List (V×V)):EK as k (p::r)=(as p.1).bind fun j=>if j=k then some (some p.2) else EK as k r:=rfl
noncomputable def CW (a:V)(es:List (V×V)):Option (Option V):=match DJ a with
 |some i=>EK DJ i es
 |none=>(D7 a).bind fun s=>if es.isEmpty=true then none else EK D7 s es
noncomputable def OY (k:Int)(v:V):List (V×V)→Option (List (V×V))
 |[]=>some [(.int k,v)]
 |(x,u)::r=>(DJ x).bind fun j=>if j=k then some ((x,v)::r) else(OY k v r).map ((x,u)::·)
noncomputable def Ob (k:Int):List (V×V)→Option (List (V×V))
 |[]=>none
 |(x,u)::r=>(DJ x).bind fun j=>if j=k then some r else(Ob k r).map ((x,u)::·)
noncomputable def Nl:O→O
 | .fro es=>.dict es
 |o=>o
set_option backward.match.sparseCases false in
noncomputable def O5 (S:BD)(v:V):M O:=match v with
 | .sta n=>.pure (S.sta n)
 | .obj i=>(rd some i).bind fun o=>.pure (Nl o)
 |_=>stuck
set_option backward.match.sparseCases false in
noncomputable def aJ (a:V):O→M Bool
 | .list xs=>dyn .bool (Hx a xs)
 | .dict es=>(dyn .oval (CW a es)).bind fun r=>.pure r.isSome
 | .sdict es=>(dyn .oval (CW a es)).bind fun r=>.pure r.isSome
 |_=>stuck
noncomputable def VL (S:BD)(a b:V):M Bool:=match D7 b with
 |some t=>(B2 (D7 a)).bind fun s=>.pure (BL t s)
 |none=>(O5 S b).bind (aJ a)
noncomputable def isNone (v:V):M Bool:=chk (!Ms v) (.pure (IR v))
noncomputable def QZ (p:Int→Int→Bool)(a b:V):M Bool:=(B2 (DJ a)).bind fun x=>(B2 (DJ b)).bind fun y=>.pure (p x y)
noncomputable def VJ (a b:V):M Bool:=match Pk b with
 |some q=>(B2 (Pk a)).bind fun p=>.pure (decide (p=q))
 |none=>chk (IR b) (isNone a)
noncomputable def Xc (a b:V):M Bool:=match DJ a with
 |some x=>(B2 (DJ b)).bind fun y=>.pure (decide (x≤y))
 |none=>(B2 (D7 a)).bind fun x=>(B2 (D7 b)).bind fun y=>.pure (!(decide (y.cps.toList<x.cps.toList)))
noncomputable def QD (m:M Bool):M Bool:=m.bind fun r=>.pure (!r)
noncomputable def Kg (S:BD)(op:CmpOp)(a b:V):M Bool:=match op with
 | .Eq=>Y9 a b
 | .NotEq=>QD (B2 (Lq a b))
 | .Lt=>QZ (fun x y=>decide (x<y)) a b
 | .LtE=>Xc a b
 | .Gt=>QZ (fun x y=>decide (y<x)) a b
 | .GtE=>QZ (fun x y=>decide (y≤x)) a b
 | .Is=>VJ a b
 | .IsNot=>QD (VJ a b)
 | .In=>VL S a b
 | .NotIn=>QD (VL S a b)
noncomputable def JC (a b:V)(f:Int→Int→M V):M V:=(B2 (DJ a)).bind fun x=>(B2 (DJ b)).bind fun y=>f x y
noncomputable def Uh (a b:V):M V:=match DJ a with
 |some x=>(B2 (DJ b)).bind fun y=>.pure (.int (x+y))
 |none=>match D7 a with
  |some x=>(B2 (D7 b)).bind fun y=>req (BF (x.cps.size+y.cps.size)) (.pure (.str (x++y)))
  |none=>(B2 (GS a)).bind fun i=>(B2 (GS b)).bind fun j=>(rd oL i).bind fun xs=>(rd oL j).bind fun ys=>req (BF (xs.length+ys.length)) (GK (.list (xs++ys)))
noncomputable def UH:Str:="found unknown escape character %r"
noncomputable def UG:Str:="expected escape sequence of %d hexadecimal numbers, but found %r"
noncomputable def LF (s:Str):Bool:=match s.cps.toList with
 |[c]=>Nat.blt c 1114112
 |_=>false
noncomputable def LE (n:Int):Bool:=decide (n=2)||decide (n=4)||decide (n=8)
noncomputable def UF (f:Str)(b:V):M V:=match D7 b with
 |some s=>chk (decide (f=UH)) (req (LF s) (.pure .txt))
 |none=>chk (decide (f=UG)) (match b with
  | .tup [.int n,.str s]=>req (LE n&&LF s) (.pure .txt)
  |_=>stuck)
set_option backward.match.sparseCases false in
noncomputable def Uf (op:Operator)(a b:V):M V:=match op with
 | .Add=>Uh a b
 | .Sub=>JC a b fun x y=>.pure (.int (x - y))
 | .FloorDiv=>JC a b fun x y=>req (decide (y≠0∧y.natAbs<1073741824)) (.pure (.int (x.fdiv y)))
 | .Mod=>match D7 a with
  |some f=>UF f b
  |none=>JC a b fun x y=>req (decide (y≠0)) (.pure (.int (x.fmod y)))
 | .Mult=>JC a b fun x y=>req (decide (x.natAbs<1073741824∧y.natAbs<1073741824)) (.pure (.int (x * y)))
 |_=>stuck
set_option backward.match.sparseCases false in
noncomputable def Wu (S:BD)(op:UnaryOp)(a:V):M V:=match op with
 | .USub=>(B2 (DJ a)).bind fun x=>.pure (.int (-x))
 | .Not=>(IN S a).bind fun b=>.pure (.bool (!b))
 |_=>stuck
noncomputable def DV (i:Int)(n:Nat):Option Nat:=
 if n≤1000000 then(if 0≤i then(if i.toNat<n then some i.toNat else none) else(if -i≤(n:Int) then some (i+n).toNat else none)) else none
noncomputable def Ia (n:Nat)(v:V)(d:Nat):Option Nat:=match DJ v with
 |some i=>some (if 0≤i then min i.toNat n else(i+n).toNat)
 |none=>if IR v=true then some d else none
noncomputable def Ad {α:Type}(xs:List α)(l u:Nat):List α:=(xs.take u).drop l
noncomputable def Nv (S:BD)(v l u:V):M V:=match D7 v with
 |some s=>req (BF s.cps.size) ((dyn .nat (Ia s.cps.size l 0)).bind fun a=>(dyn .nat (Ia s.cps.size u s.cps.size)).bind fun b=>.pure (.str ⟨(Ad s.cps.toList a b).toArray⟩))
 |none=>(O5 S v).bind fun o=>(B2 (oL o)).bind fun xs=>req (BF xs.length) ((dyn .nat (Ia xs.length l 0)).bind fun a=>(dyn .nat (Ia xs.length u xs.length)).bind fun b=>GK (.list (Ad xs a b)))
noncomputable def ab (i:V):O→M V
 | .list xs=>(B2 (DJ i)).bind fun k=>(dyn .nat (DV k xs.length)).bind fun(j:Nat)=>dyn .val xs[j]?
 | .dict es=>(dyn .oval (CW i es)).bind fun r=>dyn .val r
 | .sdict es=>(dyn .oval (CW i es)).bind fun r=>dyn .val r
 |_=>stuck
noncomputable def T9 (S:BD)(v i:V):M V:=match D7 v with
 |some s=>(B2 (DJ i)).bind fun k=>(dyn .nat (DV k s.cps.size)).bind fun(j:Nat)=>(dyn .nat s.cps[j]?).bind fun c=>.pure (Ai c)
 |none=>match Ld v with
  |some xs=>(B2 (DJ i)).bind fun k=>(dyn .nat (DV k xs.length)).bind fun(j:Nat)=>dyn .val xs[j]?
  |none=>(O5 S v).bind (ab i)
noncomputable def Ez (S:BD)(c:Nat)(n:Str):Option CA:=(S.cls c).bind fun k=>(k.attrs.find? fun p=>decide (p.1=n)).map (·.2)
noncomputable def VQ (n:Str)(fs:List (Str×V)):Option V:=(Co n fs).bind fun x=>if HO x=true then none else some x
set_option backward.match.sparseCases false in
noncomputable def Zu (n:Str)(fs:List (Str×V)):Option CA→Option V
 |some .free=>VQ n fs
 |some (.sta k)=>if(Co n fs).isNone=true then some (.sta k) else none
 |_=>none
set_option backward.match.sparseCases false in
noncomputable def am (n:Str)(fs:List (Str×V)):Option CA→Option V
 |some .free=>VQ n fs
 |_=>none
set_option backward.match.sparseCases false in
noncomputable def KA (S:BD)(v:V)(n:Str):M V:=match v with
 | .rcd c fs=>B2 (am n fs (Ez S c n))
 | .obj i=>(rd oI i).bind fun p=>B2 (Zu n p.2 (Ez S p.1 n))
 |_=>stuck
noncomputable def OG:Option CA→Bool
 |some .free=>true
 |_=>false
set_option backward.match.sparseCases false in
noncomputable def Ta (S:BD)(i:Nat)(n:Str)(x:V):O→M Unit
 | .inst c fs=>chk (OG (Ez S c n)&&D4 (put n x fs).length 1000) (Gu i (.inst c (put n x fs)))
 | .exc c=>chk (OG (Ez S c n)) (Gu i (.inst c [(n,x)]))
 |_=>stuck
noncomputable def Hn (S:BD)(v:V)(n:Str)(x:V):M Unit:=(B2 (GS v)).bind fun i=>(rd some i).bind (Ta S i n x)
set_option backward.match.sparseCases false in
noncomputable def TZ (j:Nat)(k:Int)(x:V):O→M Unit
 | .dict es=>req (BF es.length) ((dyn .ents (OY k x es)).bind fun r=>Gu j (.dict r))
 | .list xs=>(dyn .nat (DV k xs.length)).bind fun(n:Nat)=>Gu j (.list (xs.set n x))
 |_=>stuck
noncomputable def KV (v i x:V):M Unit:=(B2 (GS v)).bind fun j=>(B2 (DJ i)).bind fun k=>(rd some j).bind (TZ j k x)
noncomputable def Oa (v i:V):M Unit:=(B2 (GS v)).bind fun j=>(B2 (DJ i)).bind fun k=>(rd oD j).bind fun es=>req (BF es.length) ((dyn .ents (Ob k es)).bind fun r=>Gu j (.dict r))
inductive Je where
 |fn (f:Nat) (pre:List V)
 |cls (c:Nat)
 |bi (n:String)
 |ty (n:String)
 |lm (n:String) (i:Nat)
 |join (s:Str)
set_option backward.match.sparseCases false in
noncomputable def Ya:V→M Je
 | .fn f=>.pure (.fn f [])
 | .cls c=>.pure (.cls c)
 | .bi n=>.pure (.bi n)
 | .ty n=>.pure (.ty n)
 |_=>stuck
noncomputable def Tt (n:Str):Option String:=if n=("append":Str) then some "list.append" else if n=("extend":Str) then some "list.extend" else if n=("pop":Str) then some "list.pop" else none
set_option backward.match.sparseCases false in
noncomputable def QG (n:Str)(fs:List (Str×V))(i:Nat):Option CA→Option Je
 |some (.fn f)=>if(Co n fs).isNone=true then some (.fn f [.obj i]) else none
 |_=>none
set_option backward.match.sparseCases false in
noncomputable def QF (S:BD)(n:Str)(i:Nat):O→Option Je
 | .inst c fs=>QG n fs i (Ez S c n)
 | .list _=>(Tt n).map fun b=>.lm b i
 |_=>none
noncomputable def Ts (S:BD)(v:V)(n:Str):M Je:=match D7 v with
 |some s=>if n=("join":Str) then .pure (.join s) else stuck
 |none=>(B2 (GS v)).bind fun i=>(rd (QF S n i) i)
noncomputable def Lu:List V→Option (List Str)
 |[]=>some []
 |x::r=>(D7 x).bind fun s=>(Lu r).map (s::·)
noncomputable def EC (c:Nat):Option Nat:=
 if 48≤c∧c≤57 then some (c - 48) else if 97≤c∧c≤102 then some (c - 87) else if 65≤c∧c≤70 then some (c - 55) else none
noncomputable def EB:List Nat→Nat→Option Nat
 |[],a=>some a
 |c::r,a=>(EC c).bind fun x=>EB r (a * 16+x)
theorem S4 (c:Nat)(r:List Nat)(a:Nat):EB (c::r) a=(EC c).bind fun x=>EB r (a * 16+x):=rfl
noncomputable def Ct (S:BD)(c:Nat):Bool:=match S.cls c with
 |some q=>(match q.kind with
  | .exc=>true
  |_=>false)
 |none=>false
set_option backward.match.sparseCases false in
noncomputable def Xi (S:BD)(v c:V):M V:=match c,v with
 | .cls k,.rcd j _=>chk ((S.cls k).isSome&&((S.cls j).isSome&& !Ct S j)) (.pure (.bool (decide (j=k))))
 | .ty n,.str _=>if n="str" then .pure (.bool true) else stuck
 |_,_=>stuck
noncomputable def Tu (S:BD)(v:V):M V:=match D7 v with
 |some s=>req (BF s.cps.size) (.pure (.int s.cps.size))
 |none=>(O5 S v).bind fun o=>(B2 (oL o)).bind fun xs=>req (BF xs.length) (.pure (.int xs.length))
noncomputable def bM (v:V):M V:=(B2 (DJ v)).bind fun i=>req (decide (0≤i∧i<1114112)) (.pure (Ai i.toNat))
noncomputable def Km:List V→Option Bool
 |[]=>some true
 |x::xs=>(Pk x).bind fun b=>(Km xs).map fun r=>b&&r
noncomputable def Ye (v:V):M V:=(B2 (GS v)).bind fun i=>(rd oL i).bind fun xs=>req (BF xs.length) ((dyn .bool (Km xs)).bind fun b=>.pure (.bool b))
noncomputable def Va (S:BD)(n:String):List V→M V
 |[v]=>if n="len" then Tu S v else if n="chr" then bM v else if n="all" then Ye v else stuck
 |[v,c]=>if n="isinstance" then Xi S v c else stuck
 |_=>stuck
noncomputable def Ut (n:String):List V→M V
 |[v]=>if n="list" then(B2 (GS v)).bind fun i=>(rd oD i).bind fun es=>req (BF es.length) (GK (.list (es.map (·.1))))
   else if n="range" then(B2 (DJ v)).bind fun b=>req (BF b.natAbs) (.pure (.rng 0 b)) else stuck
 |[v,u]=>if n="range" then(B2 (DJ v)).bind fun a=>(B2 (DJ u)).bind fun b=>req (BF a.natAbs&&BF b.natAbs) (.pure (.rng a b)) else if n="int" then(B2 (D7 v)).bind fun s=>(B2 (DJ u)).bind fun b=>req (decide (b=16∧0<s.cps.size∧s.cps.size≤8)) ((dyn .nat (EB s.cps.toList 0)).bind fun(x:Nat)=>.pure (.int x)) else stuck
 |_=>stuck
noncomputable def VE (n:String)(i:Nat):List V→M V
 |[v]=>(rd oL i).bind fun xs=>
  if n="list.append" then req (BF xs.length) ((Gu i (.list (xs++[v]))).bind fun zz=>.pure V.none)
  else if n="list.extend" then(B2 (GS v)).bind fun j=>req (decide (j≠i)) ((rd oL j).bind fun ys=>req (BF (xs.length+ys.length)) ((Gu i (.list (xs++ys))).bind fun zz=>.pure V.none))
  else if n="list.pop" then(B2 (DJ v)).bind fun k=>req (decide (k=0)&&BF xs.length) ((dyn .val xs.head?).bind fun v=>(Gu i (.list xs.tail)).bind fun zz=>.pure v)
  else stuck
 |[]=>if n="list.pop" then(rd oL i).bind fun xs=>req (BF xs.length) ((dyn .val xs.getLast?).bind fun v=>(Gu i (.list xs.dropLast)).bind fun zz=>.pure v) else stuck
 |_=>stuck
noncomputable def slots {α:Type}(ps:List Str)(vs:List α)(kw:List (Str×α))(ds:List α):List (Str×α):=
 ((ps.drop (ps.length - ds.length)).zip ds).foldl (fun acc p=>if(acc.lookup p.1).isNone then acc++[(p.1,p.2)] else acc) (ps.zip vs++kw)
noncomputable def boundOf {α:Type}(ps:List Str)(vs:List α)(kw:List (Str×α))(ds:List α):List (Str×α):=ps.filterMap fun n=>((slots ps vs kw ds).lookup n).map (n,·)
noncomputable def fits {α:Type}(ps:List Str)(vs:List α)(kw:List (Str×α))(ds:List α):Bool:=
 decide (vs.length≤ps.length)&&kw.all (fun p=>ps.contains p.1&& !(ps.take vs.length).contains p.1)&&decide ((kw.map (·.1)).Nodup)&&decide (ds.length≤ps.length)&&
  ((ps.take (ps.length - ds.length)).filter fun n=>((ps.zip vs++kw).lookup n).isNone).isEmpty
noncomputable def K9 (fn:Fn)(vs:List V)(kws:List (Str×V)):Option (List (Str×V)):=
 if fits fn.params vs kws fn.dflts=true then some (boundOf fn.params vs kws fn.dflts) else none
set_option backward.match.sparseCases false in
noncomputable def EE (g:Str→Option V)(binds:List (Str×V)):List (Str×Aq)→List O→List (Str×V)×List O
 |[],h=>([],h)
 |(x,k)::r,h=>match k with
  | .local=>let q:=EE g binds r h;((x,(Co x binds).getD .undef)::q.1,q.2)
  | .cell=>let q:=EE g binds r (h++[.cell ((Co x binds).getD .undef)]);((x,.cref h.length)::q.1,q.2)
  | .globalImplicit=>let q:=EE g binds r h;(match g x with|some v=>(x,v)::q.1|none=>q.1,q.2)
  |_=>EE g binds r h
noncomputable def entry (S:BD)(sc:Scope)(binds:List (Str×V))(h:List O):St:=let q:=EE S.glob binds sc.names h;⟨q.1,q.2⟩
noncomputable def Fw (en:Bool)(k:Nat)(v:V):V:=bif en then .tup [.int k,v] else v
noncomputable def L9 (it:It)(k:Nat):M (Option V):=match it with
 | .list i en=>(rd oL i).bind fun xs=>req (D4 k xs.length) (dyn .oval (some (xs[k]?.map (Fw en k))))
 | .str s en=>dyn .oval (some ((s.cps[k]?.map Ai).map (Fw en k)))
 | .rng a b=>dyn .oval (some (if a+k<b then some (.int (a+k)) else none))
 | .dict i=>(rd oF i).bind fun es=>dyn .oval (some (es[k]?.map (·.1)))
set_option backward.match.sparseCases false in
noncomputable def bt (i:Nat):O→M It
 | .list _=>.pure (.list i false)
 | .dict es=>req (BF es.length) ((Gu i (.fro es)).bind fun zz=>.pure (.dict i))
 |_=>stuck
set_option backward.match.sparseCases false in
noncomputable def QM (v:V):M It:=match v with
 | .obj i=>(rd some i).bind (bt i)
 | .str s=>.pure (.str s false)
 | .rng a b=>req (BF a.natAbs&&BF b.natAbs) (.pure (.rng a b))
 |_=>stuck
set_option backward.match.sparseCases false in
noncomputable def IW (v:V):M It:=match v with
 | .obj i=>(rd oL i).bind fun zz=>.pure (.list i true)
 | .str s=>.pure (.str s true)
 |_=>stuck
noncomputable def Go (d:Nat)(t:Expr)(b:List Stmt):M Fl:=fun s k e=>.whl d t b s k e
noncomputable def MK (d:Nat)(t:Expr)(it:It)(j:Nat)(b:List Stmt):M Fl:=fun s k e=>.frl d t it j b s k e
noncomputable def Kf (d:Nat)(elt t:Expr)(ifs:List Expr)(it:It)(j i:Nat):M Unit:=fun s k e=>.cmp d elt t ifs it j i s k e
structure GT where
 ev:Nat→Expr→M V
 tr:Nat→Expr→M Bool
 ex:Nat→Stmt→M Fl
noncomputable def nz (d:Nat):Bool:= !(C1 d 0)
noncomputable def Gp:Nat:=16
noncomputable def ID (d:Nat):Nat:=bif C1 d Gp then 15 else d
set_option backward.match.sparseCases false in
noncomputable def NM:Expr→Option (Str×Pos)
 | .Name x p=>some (x,p)
 |_=>none
set_option backward.match.sparseCases false in
noncomputable def NY:Expr→Option (Expr×List Expr×Bool)
 | .Call f as ks _=>some (f,as,ks.isEmpty)
 |_=>none
noncomputable def noStar (e:Expr):Bool:= !(C1 e.ctorIdx 22)
noncomputable def F0 (d:Nat)(f:Nat)(vs:List V)(kws:List (Str×V)):HM:=fun h k e=>match d with
 |0=>.none
 |d+1=>.call d f vs kws h k e
set_option backward.match.sparseCases false in
noncomputable def Rt:O→Option Unit
 | .void=>some ()
 |_=>none
noncomputable def aO (i:Nat)(h:List O)(k:V→List O→Ay):Ay:=N7 h i fun o=>oB (oI o) fun p=>k (.rcd p.1 p.2) (h.set i .dead)
noncomputable def aG (S:BD)(d:Nat)(c:Nat)(vs:List V)(kws:List (Str×V)):HM:=fun h k e=>oB (S.cls c) fun q=>match q.kind with
 | .self=>N7 h 0 fun o=>oB (Rt o) fun zz=>F0 d q.init (.obj 0::vs) kws (h.set 0 (.inst c [])) (fun u h=>bif IR u then k (.obj 0) h else .none) e
 | .rcd=>F0 d q.init (.obj h.length::vs) kws (h++[.inst c []]) (fun u h'=>bif IR u then aO h.length h' k else .none) e
 | .exc=>.none
noncomputable def U9 (c i:Nat)(h:List O)(k:V→List O→Ay):Ay:=N7 h i fun o=>oB (oI o) fun p=>bif C1 p.1 c then k (.rcd p.1 p.2) (h.set i .dead) else .none
noncomputable def QT (S:BD)(d:Nat)(c:Nat)(vs:List V):HM:=fun h k e=>oB (S.cls c) fun q=>match q.kind with
 | .exc=>F0 d q.init (.obj h.length::vs) [] (h++[.exc c]) (fun u h'=>bif IR u then U9 c h.length h' e else .none) (fun zz zz=>.none)
 |_=>.none
noncomputable def Nk (f:HM):M Fl:=fun s k e=>f s.heap (fun zz zz=>.none) (fun x h=>e x ⟨s.loc,h⟩)
section
variable (S:BD)(r:GT)
noncomputable def IV (d:Nat):List Expr→M (List V)
 |[]=>.pure []
 |e::es=>chk (noStar e) ((r.ev d e).bind fun v=>(IV d es).bind fun vs=>.pure (v::vs))
noncomputable def VB (k:Keyword):Bool:=k.arg.isSome
noncomputable def I1 (as:List Expr)(ks:List Keyword):Bool:=as.all noStar&&ks.all VB
noncomputable def Ir (d:Nat):List Keyword→M (List (Str×V))
 |[]=>.pure []
 |k::es=>(B2 k.arg).bind fun n=>(r.ev d k.value).bind fun v=>(Ir d es).bind fun vs=>.pure ((n,v)::vs)
noncomputable def VR (d:Nat)(o:Option Expr):M V:=match o with
 |none=>.pure .none
 |some e=>r.ev d e
set_option backward.match.sparseCases false in
noncomputable def Hd (m:M Fl):Fl→M Fl
 | .next=>m
 |f=>.pure f
noncomputable def Cy (d:Nat):List Stmt→M Fl
 |[]=>.pure .next
 |s::ss=>(r.ex d s).bind (Hd (Cy d ss))
noncomputable def K8 (d:Nat)(op:BoolOp):List Expr→M V
 |[]=>stuck
 |e::es=>(r.ev d e).bind fun v=>if es.isEmpty=true then .pure v else(IN S v).bind fun t=>match op with
  | .Or=>Ej t (.pure v) (K8 d op es)
  | .And=>Ej t (K8 d op es) (.pure v)
noncomputable def Hf (d:Nat)(op:BoolOp):List Expr→M Bool
 |[]=>.pure (match op with| .Or=>false| .And=>true)
 |e::es=>(r.tr d e).bind fun t=>match op with
  | .Or=>Ej t (.pure true) (Hf d op es)
  | .And=>Ej t (Hf d op es) (.pure false)
noncomputable def Js (e:Expr):Bool:= !(C1 e.ctorIdx 7||C1 e.ctorIdx 22)
noncomputable def Gb (d:Nat)(a:V):List CmpOp→List Expr→M Bool
 |op::ops,e::es=>chk (Js e&&(!ops.isEmpty||es.isEmpty)) ((r.ev d e).bind fun b=>(Kg S op a b).bind fun t=>
  if ops.isEmpty=true then .pure t else Ej t (Gb d b ops es) (.pure false))
 |_,_=>stuck
theorem Pg (d:Nat)(a:V)(op:CmpOp)(ops:List CmpOp)(e:Expr)(es:List Expr):Gb S r d a (op::ops) (e::es)=chk (Js e&&(!ops.isEmpty||es.isEmpty)) ((r.ev d e).bind fun b=>(Kg S op a b).bind fun t=>
  if ops.isEmpty=true then .pure t else Ej t (Gb S r d b ops es) (.pure false)):=rfl
set_option backward.match.sparseCases false in
noncomputable def JV:Expr→Option V
 | .Constant k _ _=>Hw k
 |_=>none
noncomputable def Fk:List (Option Expr)→List Expr→Option (List (Str×V))
 |[],[]=>some []
 |k::ks,e::es=>(k.bind JV).bind fun a=>(D7 a).bind fun i=>(JV e).bind fun b=>(Fk ks es).map ((i,b)::·)
 |_,_=>none
noncomputable def Rf (l:List (Str×V)):Bool:=decide ((l.map (·.1)).Nodup)
noncomputable def HG (l:List (Str×V)):List (V×V):=l.map fun p=>(.str p.1,p.2)
noncomputable def dictM (ks:List (Option Expr))(vs:List Expr):M V:=match ks with
 |[]=>chk vs.isEmpty (GK (.dict []))
 |_=>(B2 (Fk ks vs)).bind fun l=>chk (Rf l&&D4 l.length 33) (GK (.sdict (HG l)))
noncomputable def NO (s:Str):List V→M V
 |[v]=>(B2 (GS v)).bind fun i=>(rd oL i).bind fun xs=>(dyn .strs (Lu xs)).bind fun l=>req (BF ((l.map fun x=>x.cps.size).sum+s.cps.size * l.length)) (.pure (.str (DB s l)))
 |_=>stuck
noncomputable def Lg (S:BD)(d:Nat)(c:Je)(vs:List V)(kws:List (Str×V)):M V:=match c with
 | .fn f pre=>LB (F0 d f (pre++vs) kws)
 | .cls c=>LB (aG S d c vs kws)
 | .bi n=>chk (nz d&&kws.isEmpty) (Va S n vs)
 | .ty n=>chk (nz d&&kws.isEmpty) (Ut n vs)
 | .lm n i=>chk kws.isEmpty (VE n i vs)
 | .join s=>chk kws.isEmpty (NO s vs)
noncomputable def LA (e:Expr):Option Str:=(NM e).map (·.1)
noncomputable def LO (e:Expr):Option Expr:=(NY e).bind fun q=>(LA q.1).bind fun n=>if n=("enumerate":Str)∧q.2.2=true then(if q.2.1.length=1 then q.2.1.head? else none) else none
set_option backward.match.sparseCases false in
noncomputable def NP:V→Bool
 | .ty n=>n=="enumerate"
 |_=>false
noncomputable def K4 (d:Nat)(e:Expr):M It:=chk (Js e) (match LO e with
 |some x=>chk (noStar x) ((E3 "enumerate").bind fun f=>chk (NP f) ((r.ev d x).bind IW))
 |none=>(r.ev d e).bind QM)
noncomputable def H6:List Expr→List V→M Unit
 |[],[]=>.pure ()
 |t::ts,v::vs=>(B2 (LA t)).bind fun x=>(FB x v).bind fun zz=>H6 ts vs
 |_,_=>stuck
set_option backward.match.sparseCases false in
noncomputable def Hl (d:Nat)(t:Expr)(v:V):M Unit:=match t with
 | .Name x _=>FB x v
 | .Attribute o n _=>(r.ev d o).bind fun ov=>Hn S ov n v
 | .Subscript o i _=>(r.ev d o).bind fun ov=>(r.ev d i).bind fun iv=>KV ov iv v
 | .Tuple ts _ _=>(B2 (Ld v)).bind fun vs=>chk (nz d&&(decide (ts.length=vs.length)&&ts.all fun t=>(LA t).isSome)) (H6 ts vs)
 |_=>stuck
set_option backward.match.sparseCases false in
noncomputable def Ei:It→Bool
 | .list _ en=>en
 | .str _ en=>en
 |_=>false
noncomputable def OD (e:Expr):Bool:=C1 e.ctorIdx 25
noncomputable def Fj (it:It)(t:Expr):Bool:= !Ei it||OD t
set_option backward.match.sparseCases false in
noncomputable def Cg (g:Str→Option V)(loc:List (Str×V)):List (Str×Aq)→List (Str×V)
 |[]=>[]
 |(x,k)::r=>match k with
  | .local=>(x,.undef)::Cg g loc r
  | .free=>(match Co x loc with|some v=>(x,v)::Cg g loc r|none=>Cg g loc r)
  | .globalImplicit=>(match g x with|some v=>(x,v)::Cg g loc r|none=>Cg g loc r)
  |_=>Cg g loc r
noncomputable def aH (loc:List (Str×V))(p:Str×Aq):Bool:=match p.2 with
 | .free=>((Co p.1 loc).bind Lf).isSome
 | .cell=>false
 |_=>true
set_option backward.match.sparseCases false in
noncomputable def ZY:ScopeKind→Bool
 | .function=>true
 |_=>false
noncomputable def Of (sc:Scope)(loc:List (Str×V)):Bool:=
 ZY sc.kind&&decide ((sc.names.map (·.1)).Nodup)&& !(sc.names.map (·.1)).contains ("__debug__":Str)&&sc.names.all (aH loc)
noncomputable def LY (sc:Scope)(m:M Unit):M Unit:=fun s k e=>bif Of sc s.loc then m ⟨Cg S.glob s.loc sc.names,s.heap⟩ (fun u s'=>k u ⟨s.loc,s'.heap⟩) (fun zz zz=>.none) else .none
set_option backward.match.sparseCases false in
noncomputable def Hj:It→Bool
 | .dict _=>false
 |_=>true
noncomputable def Td (sc:Scope):M Unit:=fun s k e=>bif Of sc s.loc then k () s else .none
noncomputable def NW (d:Nat)(elt t iter:Expr)(ifs:List Expr)(sc:Scope):M V:=chk (nz d)<|(Td sc).bind fun zz=>(K4 r d iter).bind fun it=>chk (Hj it&&Fj it t)
 ((GK (.list [])).bind fun v=>(B2 (GS v)).bind fun i=>(LY S sc (Kf (ID d) elt t ifs it 0 i)).bind fun zz=>.pure v)
noncomputable def Zn:List Comprehension→Option (Expr×Expr×List Expr)
 |[⟨t,iter,ifs,k⟩]=>if k=0 then some (t,iter,ifs) else none
 |_=>none
set_option backward.match.sparseCases false in
noncomputable def QE:Expr→Bool
 | .Call _ as ks _=> !(as.isEmpty&&ks.isEmpty)
 |_=>true
set_option backward.match.sparseCases false in
noncomputable def VW (d:Nat)(f:Expr)(as:List Expr)(ks:List Keyword)(p:Pos):M V:=chk (decide (as.length+ks.length<20)&&I1 as ks) (match f with
 | .Attribute o n ap=>chk (decide (ap.endLine=p.line)&&QE o) ((r.ev d o).bind fun ov=>(Ts S ov n).bind fun c=>(IV r d as).bind fun vs=>(Ir r d ks).bind fun kvs=>Lg S d c vs kvs)
 | .Name x xp=>(r.ev d (.Name x xp)).bind fun fv=>(Ya fv).bind fun c=>(IV r d as).bind fun vs=>(Ir r d ks).bind fun kvs=>Lg S d c vs kvs
 |_=>stuck)
set_option backward.match.sparseCases false in
noncomputable def RA:Expr→Option (Option Expr×Option Expr×Pos)
 | .Slice l u none p=>some (l,u,p)
 |_=>none
noncomputable def TA (d:Nat)(v i:Expr):M V:=match RA i with
 |some q=>(r.ev d v).bind fun vv=>(VR r d q.1).bind fun a=>(VR r d q.2.1).bind fun b=>Nv S vv a b
 |none=>(r.ev d v).bind fun vv=>(r.ev d i).bind fun iv=>T9 S vv iv
set_option backward.match.sparseCases false in
noncomputable def aR (d:Nat):Expr→M V
 | .Constant c _ _=>B2 (Hw c)
 | .Name x _=>E3 x
 | .BoolOp op vs _=>K8 S r d op vs
 | .BinOp l op x _=>(r.ev d l).bind fun a=>(r.ev d x).bind fun b=>Uf op a b
 | .UnaryOp op x _=>(r.ev d x).bind fun a=>Wu S op a
 | .IfExp t b o _=>(r.tr d t).bind fun q=>Ej q (r.ev d b) (r.ev d o)
 | .Dict ks vs _=>dictM ks vs
 | .List es _=>(IV r d es).bind fun vs=>chk (BF vs.length) (GK (.list vs))
 | .Tuple es _ _=>(IV r d es).bind fun vs=>chk (BF vs.length) (.pure (.tup vs))
 | .Compare l ops cs _=>(r.ev d l).bind fun a=>(Gb S r d a ops cs).bind fun b=>.pure (.bool b)
 | .Call f as ks p=>VW S r d f as ks p
 | .Attribute o n _=>chk (QE o) ((r.ev d o).bind fun ov=>KA S ov n)
 | .Subscript v i _=>TA S r d v i
 | .ListComp elt gs sc _=>(B2 (Zn gs)).bind fun g=>NW S r d elt g.1 g.2.1 g.2.2 sc
 |_=>stuck
set_option backward.match.sparseCases false in
noncomputable def ax:Expr→Option Expr
 | .UnaryOp .Not x _=>some x
 |_=>none
noncomputable def VI (e:Expr):Bool:=C1 e.ctorIdx 3||C1 e.ctorIdx 0||C1 e.ctorIdx 5||C1 e.ctorIdx 15
set_option backward.match.sparseCases false in
noncomputable def Zy (d:Nat)(e:Expr):M Bool:=match e with
 | .UnaryOp op x p=>Tm (ax (.UnaryOp op x p)) stuck fun x=>QD (r.tr d x)
 | .BoolOp op vs _=>Hf r d op vs
 | .Compare l ops cs _=>(r.ev d l).bind fun a=>Gb S r d a ops cs
 |e=>chk (!VI e) ((r.ev d e).bind (IN S))
set_option backward.match.sparseCases false in
noncomputable def Oj (op:Operator)(a b:V):M V:=match op with
 | .Add=>JC a b fun x y=>.pure (.int (x+y))
 | .Sub=>JC a b fun x y=>.pure (.int (x - y))
 |_=>stuck
noncomputable def Eg:O→Bool
 | .fro _=>false
 |_=>true
noncomputable def Iu:It→M Unit
 | .dict i=>(rd oF i).bind fun es=>fun s k zz=>.ite ((s.heap.set i (.dict es)).all Eg) (k () ⟨s.loc,s.heap.set i (.dict es)⟩) .none
 |_=>.pure ()
noncomputable def EA (e:Expr):Bool:=C1 e.ctorIdx 8||C1 e.ctorIdx 9||C1 e.ctorIdx 10
noncomputable def ZX (e:Expr):Bool:=C1 e.ctorIdx 21
noncomputable def Xj (e:Expr):Bool:=C1 e.ctorIdx 16
set_option backward.match.sparseCases false in
noncomputable def JD (x:Str)(p:Pos):Expr→Bool
 | .ListComp _ _ sc q=>p.line==q.line&& !(sc.names.any fun(n,k)=>n==x&&(k== .local||k== .cell))
 |_=>false
set_option backward.match.sparseCases false in
noncomputable def Jp (t e:Expr):Bool:=match t with
 | .Name x p=> !EA e||JD x p e
 | .Attribute ..=> !EA e
 | .Subscript ..=> !EA e
 | .Tuple ..=>ZX e||Xj e
 |_=>false
noncomputable def QC {α:Type}:List α→Option α
 |[a]=>some a
 |_=>none
set_option backward.match.sparseCases false in
noncomputable def YK:Expr→Option (Expr×Expr×Pos)
 | .Subscript o i p=>some (o,i,p)
 |_=>none
set_option backward.match.sparseCases false in
noncomputable def Yc (d:Nat)(t:Expr)(op:Operator)(e:Expr):M Fl:=match t with
 | .Name x _=>(E3 x).bind fun old=>(r.ev d e).bind fun v=>(Oj op old v).bind fun n=>(FB x n).bind fun zz=>.pure .next
 | .Attribute o a _=>(r.ev d o).bind fun ov=>(KA S ov a).bind fun old=>(r.ev d e).bind fun v=>(Oj op old v).bind fun n=>(Hn S ov a n).bind fun zz=>.pure .next
 |_=>stuck
noncomputable def bB (x:Str):M Unit:=fun s k zz=>oB (Co x s.loc) fun u=>bif Az u then k () s else .none
set_option backward.match.sparseCases false in
noncomputable def Pv (t e:Expr):M Unit:=match t with
 | .Name x _=>bif EA e then bB x else .pure ()
 |_=>.pure ()
noncomputable def I2 {α:Type}(m:M α):M α:=fun s k zz=>m s k fun zz zz=>.none
noncomputable def JL (it:It)(m:M Fl):M Fl:=match it with
 | .dict _=>I2 m
 |_=>m
set_option backward.match.sparseCases false in
noncomputable def Le:V→Option Nat
 | .cls c=>some c
 |_=>none
noncomputable def XN:V→Option Nat
 | .rcd c _=>some c
 |_=>none
noncomputable def RY:Option Expr→Option Expr→Option (Str×Pos×List Expr)
 |some x,none=>(NY x).bind fun q=>bif q.2.2 then(NM q.1).map fun n=>(n.1,n.2,q.2.1) else none
 |_,_=>none
noncomputable def RX (d:Nat)(q:Str×Pos×List Expr):M Fl:=chk (nz d&&I1 q.2.2 []) ((E3 q.1).bind fun fv=>(B2 (Le fv)).bind fun c=>(IV r d q.2.2).bind fun vs=>chk (BF vs.length) (Nk (QT S d c vs)))
noncomputable def U7:List ExceptHandler→Option (Str×Pos×Str×List Stmt)
 |[.ExceptHandler (some t) (some n) (b::bs) _]=>(NM t).map fun q=>(q.1,q.2,n,b::bs)
 |_=>none
noncomputable def P0 (n:Str):M Unit:=fun s k zz=>oB (Co n s.loc) fun u=>bif GX u .none then k () ⟨[],s.heap⟩ else .none
noncomputable def Y7 (d:Nat)(q:Str×Pos×Str×List Stmt)(x:V):M Fl:=(E3 q.1).bind fun cv=>(B2 (Le cv)).bind fun c=>(B2 (XN x)).bind fun j=>chk (decide (j=c)) ((FB q.2.2.1 x).bind fun zz=>(Cy r 0 q.2.2.2).bind fun f=>(P0 q.2.2.1).bind fun zz=>.pure f)
noncomputable def T3 (d:Nat)(b:List Stmt)(hs:List ExceptHandler):M Fl:=match U7 hs with
 |none=>I2 (Cy r d b)
 |some q=>bif C1 d Gp then fun s k e=>Cy r d b s k fun x s'=>I2 (Y7 r d q x) s' k e else I2 (Cy r d b)
set_option backward.match.sparseCases false in
noncomputable def aQ (d:Nat):Stmt→M Fl
 | .Expr e _=>chk (!EA e) ((r.ev d e).bind fun zz=>.pure .next)
 | .Return o _=>(VR r d o).bind fun v=>.pure (.ret v)
 | .Assign ts e _=>(B2 (QC ts)).bind fun t=>chk (Jp t e) ((Pv t e).bind fun zz=>(r.ev d e).bind fun v=>(Hl S r d t v).bind fun zz=>.pure .next)
 | .AugAssign t op e _=>Yc S r d t op e
 | .Delete ts _=>(B2 (QC ts)).bind fun t=>(B2 (YK t)).bind fun q=>(r.ev d q.1).bind fun ov=>(r.ev d q.2.1).bind fun iv=>(Oa ov iv).bind fun zz=>.pure .next
 | .If t b o _=>(r.tr d t).bind fun q=>Ej q (Cy r d b) (Cy r d o)
 | .While t b o _=>chk (nz d&&o.isEmpty) (Go d t b)
 | .For t iter b o _=>chk (nz d&&o.isEmpty) ((K4 r d iter).bind fun it=>chk (Fj it t) ((JL it (MK d t it 0 b)).bind fun f=>(Iu it).bind fun zz=>.pure f))
 | .Try b hs o f _=>chk (o.isEmpty&&f.isEmpty) (T3 r d b hs)
 | .Raise x c _=>(B2 (RY x c)).bind fun q=>RX S r d q
 |_=>stuck
noncomputable def T8 (d:Nat)(g k:Nat)(fn:Fn):M Fl:=match fn.params with
 |[ps,px]=>(E3 ps).bind fun a=>(B2 (GS a)).bind fun i=>(rd oI i).bind fun p=>chk (decide (p.1=k)) ((E3 px).bind fun b=>(LB (F0 d g [.obj i,b] [])).bind fun zz=>Cy r d (fn.body.drop 1))
 |_=>stuck
set_option backward.match.sparseCases false in
noncomputable def GU (m:M Fl):Fl→M Fl
 | .brk=>.pure .next
 | .ret v=>.pure (.ret v)
 |_=>m
noncomputable def Iw (d:Nat)(fn:Fn):M Fl:=match fn.sup with
 |none=>Cy r d fn.body
 |some gk=>I2 (T8 r d gk.1 gk.2 fn)
set_option backward.match.sparseCases false in
noncomputable def Ho (k:V→List O→Ay):Fl→St→Ay
 | .ret v,s=>k v s.heap
 | .next,s=>k .none s.heap
 |_,_=>.none
noncomputable def Hv (e:V→List O→Ay)(x:V)(s:St):Ay:=e x s.heap
noncomputable def H5 (d f:Nat)(vs:List V)(kws:List (Str×V)):HM:=fun h k e=>oB (S.fns f) fun fn=>oB (K9 fn vs kws) fun b=>Iw r d fn (entry S fn.scope b h) (Ho k) (Hv e)
noncomputable def Su (d:Nat)(t:Expr)(b:List Stmt):M Fl:=(r.tr d t).bind fun q=>Ej q ((Cy r d b).bind (GU (Go d t b))) (.pure .next)
noncomputable def UA (d:Nat)(t:Expr)(it:It)(k:Nat)(b:List Stmt):M Fl:=(L9 it k).bind fun o=>Tm o (.pure .next) fun v=>(Hl S r d t v).bind fun zz=>(Cy r d b).bind (GU (MK d t it (k+1) b))
noncomputable def US (d:Nat)(elt t:Expr)(ifs:List Expr)(it:It)(k i:Nat):M Unit:=(L9 it k).bind fun o=>Tm o (.pure ()) fun v=>(Hl S r d t v).bind fun zz=>(Hf r d .And ifs).bind fun q=>
 Ej q ((r.ev d elt).bind fun x=>(VE "list.append" i [x]).bind fun zz=>Kf d elt t ifs it (k+1) i) (Kf d elt t ifs it (k+1) i)
end
noncomputable def E (S:BD):Nat→GT
 |0=>⟨fun zz zz=>stuck,fun zz zz=>stuck,fun zz zz=>stuck⟩
 |n+1=>⟨aR S (E S n),Zy S (E S n),aQ S (E S n)⟩
set_option backward.match.sparseCases false in
noncomputable def stp (S:BD):Ay→Ay
 | .call d f vs kws h k e=>H5 S (E S 40) d f vs kws h k e
 | .whl d t b s k e=>Su (E S 40) d t b s k e
 | .frl d t it j b s k e=>UA S (E S 40) d t it j b s k e
 | .cmp d elt t ifs it j i s k e=>US S (E S 40) d elt t ifs it j i s k e
 |t=>t
noncomputable def Y1 (rc:Ay→Prop)(o:Except V V×List O):Ay→Prop
 | .none=>False
 | .ret r h=>(r,h)=o
 | .ite b x y=>match b with
  |true=>Y1 rc o x
  |false=>Y1 rc o y
 | .opt _ a k=>match a with
  |some x=>Y1 rc o (k x)
  |none=>False
 | .call d f vs kws h k e=>rc (.call d f vs kws h k e)
 | .whl d t b s k e=>rc (.whl d t b s k e)
 | .frl d t it j b s k e=>rc (.frl d t it j b s k e)
 | .cmp d elt t ifs it j i s k e=>rc (.cmp d elt t ifs it j i s k e)
noncomputable def rc (S:BD)(o:Except V V×List O):Nat→Ay→Prop
 |0=>fun zz=>False
 |n+1=>fun t=>Y1 (rc S o n) o (stp S t)
structure Lv where
 S:BD
 n:Nat
noncomputable def Y (l:Lv)(o:Except V V×List O)(t:Ay):Prop:=Y1 (rc l.S o l.n) o t
section
universe u0 u1 u2 u3 u4 u5 u6 u7
theorem E1 {α:Type _}{a b:α}{G:Prop}(h:some a=some b)(k:a=b→G):G:=k (AG h)
theorem AU {α:Type _}{b:α}{G:Prop}(h:none=some b):G:=nomatch h
theorem MB {e:Expr}{q:Str×Pos}(h:NM e=some q):e= .Name q.1 q.2:=by
 rcases e with _|_<;>first|exact AU h|exact AG h▸rfl
theorem Ph {e:Expr}{q:Expr×List Expr×Bool}(h:NY e=some q):∃ks p,e= .Call q.1 q.2.1 ks p∧ks.isEmpty=q.2.2:=by
 rcases e with _|_<;>first|exact AU h|exact AG h▸⟨_,_,rfl,rfl⟩
theorem YC {α0:Sort u0}{α1:Sort u1}{α2:Sort u2}{α3:Sort u3}{α4:Sort u4}{A0:α0→α1→α2→α3→α4→Prop}{A1:α0→α1→α2→α3→α4→Prop}{A2:α0→α1→α2→α3→α4→Prop}{A3:α0→α1→α2→α3→α4→Prop}{G:Prop}(h:∃x0:α0,∃x1:α1,∃x2:α2,∃x3:α3,∃x4:α4,A0 x0 x1 x2 x3 x4∧A1 x0 x1 x2 x3 x4∧A2 x0 x1 x2 x3 x4∧A3 x0 x1 x2 x3 x4)(k:∀x0 x1 x2 x3 x4,A0 x0 x1 x2 x3 x4→A1 x0 x1 x2 x3 x4→A2 x0 x1 x2 x3 x4→A3 x0 x1 x2 x3 x4→G):G:=AA h fun x0 h=>AA h fun x1 h=>AA h fun x2 h=>AA h fun x3 h=>AA h fun x4 h=>k x0 x1 x2 x3 x4 h.1 h.2.1 h.2.2.1 h.2.2.2
theorem LP {α0:Sort u0}{α1:Sort u1}{α2:Sort u2}{α3:Sort u3}{α4:Sort u4}{α5:Sort u5}{A0:α0→α1→α2→α3→α4→α5→Prop}{A1:α0→α1→α2→α3→α4→α5→Prop}{A2:α0→α1→α2→α3→α4→α5→Prop}{A3:α0→α1→α2→α3→α4→α5→Prop}{A4:α0→α1→α2→α3→α4→α5→Prop}{G:Prop}(h:∃x0:α0,∃x1:α1,∃x2:α2,∃x3:α3,∃x4:α4,∃x5:α5,A0 x0 x1 x2 x3 x4 x5∧A1 x0 x1 x2 x3 x4 x5∧A2 x0 x1 x2 x3 x4 x5∧A3 x0 x1 x2 x3 x4 x5∧A4 x0 x1 x2 x3 x4 x5)(k:∀x0 x1 x2 x3 x4 x5,A0 x0 x1 x2 x3 x4 x5→A1 x0 x1 x2 x3 x4 x5→A2 x0 x1 x2 x3 x4 x5→A3 x0 x1 x2 x3 x4 x5→A4 x0 x1 x2 x3 x4 x5→G):G:=AA h fun x0 h=>AA h fun x1 h=>AA h fun x2 h=>AA h fun x3 h=>AA h fun x4 h=>AA h fun x5 h=>k x0 x1 x2 x3 x4 x5 h.1 h.2.1 h.2.2.1 h.2.2.2.1 h.2.2.2.2
theorem SR {α0:Sort u0}{α1:Sort u1}{α2:Sort u2}{α3:Sort u3}{α4:Sort u4}{α5:Sort u5}{α6:Sort u6}{α7:Sort u7}{A0:α0→α1→α2→α3→α4→α5→α6→α7→Prop}{A1:α0→α1→α2→α3→α4→α5→α6→α7→Prop}{A2:α0→α1→α2→α3→α4→α5→α6→α7→Prop}{G:Prop}(h:∃x0:α0,∃x1:α1,∃x2:α2,∃x3:α3,∃x4:α4,∃x5:α5,∃x6:α6,∃x7:α7,A0 x0 x1 x2 x3 x4 x5 x6 x7∧A1 x0 x1 x2 x3 x4 x5 x6 x7∧A2 x0 x1 x2 x3 x4 x5 x6 x7)(k:∀x0 x1 x2 x3 x4 x5 x6 x7,A0 x0 x1 x2 x3 x4 x5 x6 x7→A1 x0 x1 x2 x3 x4 x5 x6 x7→A2 x0 x1 x2 x3 x4 x5 x6 x7→G):G:=AA h fun x0 h=>AA h fun x1 h=>AA h fun x2 h=>AA h fun x3 h=>AA h fun x4 h=>AA h fun x5 h=>AA h fun x6 h=>AA h fun x7 h=>k x0 x1 x2 x3 x4 x5 x6 x7 h.1 h.2.1 h.2.2
theorem SS {α0:Sort u0}{α1:Sort u1}{α2:Sort u2}{A0:α0→α1→α2→Prop}{A1:α0→α1→α2→Prop}{A2:α0→α1→α2→Prop}{A3:α0→α1→α2→Prop}{A4:α0→α1→α2→Prop}{A5:α0→α1→α2→Prop}{G:Prop}(h:∃x0:α0,∃x1:α1,∃x2:α2,A0 x0 x1 x2∧A1 x0 x1 x2∧A2 x0 x1 x2∧A3 x0 x1 x2∧A4 x0 x1 x2∧A5 x0 x1 x2)(k:∀x0 x1 x2,A0 x0 x1 x2→A1 x0 x1 x2→A2 x0 x1 x2→A3 x0 x1 x2→A4 x0 x1 x2→A5 x0 x1 x2→G):G:=AA h fun x0 h=>AA h fun x1 h=>AA h fun x2 h=>k x0 x1 x2 h.1 h.2.1 h.2.2.1 h.2.2.2.1 h.2.2.2.2.1 h.2.2.2.2.2
theorem YB {α0:Sort u0}{α1:Sort u1}{α2:Sort u2}{α3:Sort u3}{α4:Sort u4}{α5:Sort u5}{A0:α0→α1→α2→α3→α4→α5→Prop}{A1:α0→α1→α2→α3→α4→α5→Prop}{A2:α0→α1→α2→α3→α4→α5→Prop}{A3:α0→α1→α2→α3→α4→α5→Prop}{A4:α0→α1→α2→α3→α4→α5→Prop}{A5:α0→α1→α2→α3→α4→α5→Prop}{A6:α0→α1→α2→α3→α4→α5→Prop}{A7:α0→α1→α2→α3→α4→α5→Prop}{G:Prop}(h:∃x0:α0,∃x1:α1,∃x2:α2,∃x3:α3,∃x4:α4,∃x5:α5,A0 x0 x1 x2 x3 x4 x5∧A1 x0 x1 x2 x3 x4 x5∧A2 x0 x1 x2 x3 x4 x5∧A3 x0 x1 x2 x3 x4 x5∧A4 x0 x1 x2 x3 x4 x5∧A5 x0 x1 x2 x3 x4 x5∧A6 x0 x1 x2 x3 x4 x5∧A7 x0 x1 x2 x3 x4 x5)(k:∀x0 x1 x2 x3 x4 x5,A0 x0 x1 x2 x3 x4 x5→A1 x0 x1 x2 x3 x4 x5→A2 x0 x1 x2 x3 x4 x5→A3 x0 x1 x2 x3 x4 x5→A4 x0 x1 x2 x3 x4 x5→A5 x0 x1 x2 x3 x4 x5→A6 x0 x1 x2 x3 x4 x5→A7 x0 x1 x2 x3 x4 x5→G):G:=AA h fun x0 h=>AA h fun x1 h=>AA h fun x2 h=>AA h fun x3 h=>AA h fun x4 h=>AA h fun x5 h=>k x0 x1 x2 x3 x4 x5 h.1 h.2.1 h.2.2.1 h.2.2.2.1 h.2.2.2.2.1 h.2.2.2.2.2.1 h.2.2.2.2.2.2.1 h.2.2.2.2.2.2.2
theorem FF {α0:Sort u0}{α1:Sort u1}{A0:α0→α1→Prop}{A1:α0→α1→Prop}{A2:α0→α1→Prop}{A3:α0→α1→Prop}{A4:α0→α1→Prop}{G:Prop}(h:∃x0:α0,∃x1:α1,A0 x0 x1∧A1 x0 x1∧A2 x0 x1∧A3 x0 x1∧A4 x0 x1)(k:∀x0 x1,A0 x0 x1→A1 x0 x1→A2 x0 x1→A3 x0 x1→A4 x0 x1→G):G:=AA h fun x0 h=>AA h fun x1 h=>k x0 x1 h.1 h.2.1 h.2.2.1 h.2.2.2.1 h.2.2.2.2
theorem SV {α0:Sort u0}{α1:Sort u1}{A0:α0→α1→Prop}{A1:α0→α1→Prop}{A2:α0→α1→Prop}{A3:α0→α1→Prop}{A4:α0→α1→Prop}{A5:α0→α1→Prop}{G:Prop}(h:∃x0:α0,∃x1:α1,A0 x0 x1∧A1 x0 x1∧A2 x0 x1∧A3 x0 x1∧A4 x0 x1∧A5 x0 x1)(k:∀x0 x1,A0 x0 x1→A1 x0 x1→A2 x0 x1→A3 x0 x1→A4 x0 x1→A5 x0 x1→G):G:=AA h fun x0 h=>AA h fun x1 h=>k x0 x1 h.1 h.2.1 h.2.2.1 h.2.2.2.1 h.2.2.2.2.1 h.2.2.2.2.2
theorem Do {α0:Sort u0}{A0:α0→Prop}{G:Prop}(h:∃x0:α0,A0 x0)(k:∀x0,A0 x0→G):G:=AA h fun x0 h=>k x0 h
theorem AR {α0:Sort u0}{A0:α0→Prop}{A1:α0→Prop}{G:Prop}(h:∃x0:α0,A0 x0∧A1 x0)(k:∀x0,A0 x0→A1 x0→G):G:=AA h fun x0 h=>k x0 h.1 h.2
theorem E2 {α0:Sort u0}{A0:α0→Prop}{A1:α0→Prop}{A2:α0→Prop}{G:Prop}(h:∃x0:α0,A0 x0∧A1 x0∧A2 x0)(k:∀x0,A0 x0→A1 x0→A2 x0→G):G:=AA h fun x0 h=>k x0 h.1 h.2.1 h.2.2
theorem JU {α0:Sort u0}{α1:Sort u1}{A0:α0→α1→Prop}{G:Prop}(h:∃x0:α0,∃x1:α1,A0 x0 x1)(k:∀x0 x1,A0 x0 x1→G):G:=AA h fun x0 h=>AA h fun x1 h=>k x0 x1 h
theorem Dm {α0:Sort u0}{α1:Sort u1}{A0:α0→α1→Prop}{A1:α0→α1→Prop}{G:Prop}(h:∃x0:α0,∃x1:α1,A0 x0 x1∧A1 x0 x1)(k:∀x0 x1,A0 x0 x1→A1 x0 x1→G):G:=AA h fun x0 h=>AA h fun x1 h=>k x0 x1 h.1 h.2
theorem BJ {α0:Sort u0}{α1:Sort u1}{A0:α0→α1→Prop}{A1:α0→α1→Prop}{A2:α0→α1→Prop}{G:Prop}(h:∃x0:α0,∃x1:α1,A0 x0 x1∧A1 x0 x1∧A2 x0 x1)(k:∀x0 x1,A0 x0 x1→A1 x0 x1→A2 x0 x1→G):G:=AA h fun x0 h=>AA h fun x1 h=>k x0 x1 h.1 h.2.1 h.2.2
theorem ST {α0:Sort u0}{α1:Sort u1}{α2:Sort u2}{A0:α0→α1→α2→Prop}{G:Prop}(h:∃x0:α0,∃x1:α1,∃x2:α2,A0 x0 x1 x2)(k:∀x0 x1 x2,A0 x0 x1 x2→G):G:=AA h fun x0 h=>AA h fun x1 h=>AA h fun x2 h=>k x0 x1 x2 h
theorem HC {α0:Sort u0}{α1:Sort u1}{α2:Sort u2}{A0:α0→α1→α2→Prop}{A1:α0→α1→α2→Prop}{A2:α0→α1→α2→Prop}{G:Prop}(h:∃x0:α0,∃x1:α1,∃x2:α2,A0 x0 x1 x2∧A1 x0 x1 x2∧A2 x0 x1 x2)(k:∀x0 x1 x2,A0 x0 x1 x2→A1 x0 x1 x2→A2 x0 x1 x2→G):G:=AA h fun x0 h=>AA h fun x1 h=>AA h fun x2 h=>k x0 x1 x2 h.1 h.2.1 h.2.2
theorem Em {α0:Sort u0}{α1:Sort u1}{α2:Sort u2}{A0:α0→α1→α2→Prop}{A1:α0→α1→α2→Prop}{A2:α0→α1→α2→Prop}{A3:α0→α1→α2→Prop}{G:Prop}(h:∃x0:α0,∃x1:α1,∃x2:α2,A0 x0 x1 x2∧A1 x0 x1 x2∧A2 x0 x1 x2∧A3 x0 x1 x2)(k:∀x0 x1 x2,A0 x0 x1 x2→A1 x0 x1 x2→A2 x0 x1 x2→A3 x0 x1 x2→G):G:=AA h fun x0 h=>AA h fun x1 h=>AA h fun x2 h=>k x0 x1 x2 h.1 h.2.1 h.2.2.1 h.2.2.2
theorem HB {α0:Sort u0}{α1:Sort u1}{α2:Sort u2}{α3:Sort u3}{A0:α0→α1→α2→α3→Prop}{A1:α0→α1→α2→α3→Prop}{G:Prop}(h:∃x0:α0,∃x1:α1,∃x2:α2,∃x3:α3,A0 x0 x1 x2 x3∧A1 x0 x1 x2 x3)(k:∀x0 x1 x2 x3,A0 x0 x1 x2 x3→A1 x0 x1 x2 x3→G):G:=AA h fun x0 h=>AA h fun x1 h=>AA h fun x2 h=>AA h fun x3 h=>k x0 x1 x2 x3 h.1 h.2
theorem El {α0:Sort u0}{α1:Sort u1}{α2:Sort u2}{α3:Sort u3}{A0:α0→α1→α2→α3→Prop}{A1:α0→α1→α2→α3→Prop}{A2:α0→α1→α2→α3→Prop}{G:Prop}(h:∃x0:α0,∃x1:α1,∃x2:α2,∃x3:α3,A0 x0 x1 x2 x3∧A1 x0 x1 x2 x3∧A2 x0 x1 x2 x3)(k:∀x0 x1 x2 x3,A0 x0 x1 x2 x3→A1 x0 x1 x2 x3→A2 x0 x1 x2 x3→G):G:=AA h fun x0 h=>AA h fun x1 h=>AA h fun x2 h=>AA h fun x3 h=>k x0 x1 x2 x3 h.1 h.2.1 h.2.2
theorem D6 {α0:Sort u0}{α1:Sort u1}{α2:Sort u2}{α3:Sort u3}{A0:α0→α1→α2→α3→Prop}{A1:α0→α1→α2→α3→Prop}{A2:α0→α1→α2→α3→Prop}{A3:α0→α1→α2→α3→Prop}{G:Prop}(h:∃x0:α0,∃x1:α1,∃x2:α2,∃x3:α3,A0 x0 x1 x2 x3∧A1 x0 x1 x2 x3∧A2 x0 x1 x2 x3∧A3 x0 x1 x2 x3)(k:∀x0 x1 x2 x3,A0 x0 x1 x2 x3→A1 x0 x1 x2 x3→A2 x0 x1 x2 x3→A3 x0 x1 x2 x3→G):G:=AA h fun x0 h=>AA h fun x1 h=>AA h fun x2 h=>AA h fun x3 h=>k x0 x1 x2 x3 h.1 h.2.1 h.2.2.1 h.2.2.2
structure Tp where
 prog:C0
 w:World
 base:Heap
 K:Frag
 S:BD
 af:Nat→Addr
 ac:Nat→Addr
 as:Nat→Addr
 p:C0
 loose:List Str
 mg:Str→Option Value
 mb:Str→Option Value
noncomputable abbrev DE:=Addr×Addr
noncomputable abbrev Ba:=List (Addr×Obj)
structure Kn where
 D:List (Option DE)
 I:Ba
structure Fm where
 tp:Tp
 env:Env
 h₀:Heap
 J:Ba
structure Cx where
 fm:Fm
 A:Around
 outer:List Env
 lv:Nat
noncomputable abbrev Cx.tp (c:Cx):=c.fm.tp
noncomputable abbrev Cx.env (c:Cx):=c.fm.env
noncomputable abbrev Cx.h₀ (c:Cx):=c.fm.h₀
noncomputable abbrev Cx.J (c:Cx):=c.fm.J
noncomputable abbrev Cx.prog (c:Cx):=c.tp.prog
noncomputable abbrev Cx.w (c:Cx):=c.tp.w
noncomputable abbrev Cx.base (c:Cx):=c.tp.base
noncomputable abbrev Cx.K (c:Cx):=c.tp.K
noncomputable abbrev Cx.S (c:Cx):=c.tp.S
noncomputable abbrev Cx.l (c:Cx):Lv:=⟨c.S,c.lv⟩
noncomputable abbrev Cx.af (c:Cx):=c.tp.af
noncomputable abbrev Cx.ac (c:Cx):=c.tp.ac
noncomputable abbrev Cx.as (c:Cx):=c.tp.as
noncomputable def HK (vs:List Value)(n:Nat):Obj:=⟨.type "tuple",.none,.seq vs.toArray n, #[]⟩
noncomputable def al (a b:Int)(t u v:Tok):Obj:=⟨.type "range",.none,.fields #[.int a t,.int b u,.int 1 v], #[]⟩
noncomputable def Qg (ob:Obj)(C dx:Addr):Prop:=ob.cls= .ref C∧ob.dict=some dx∧notCls ob=true
noncomputable def K5 (t:Addr):Data:=.fields #[.ref t,.none,.none,.none,.bool false,.none]
noncomputable def Qh (θ:Tp)(c:Nat)(ob:Obj)(dx:Addr):Prop:=Qg ob (θ.ac c) dx∧(Ct θ.S c=true→∃t,ob.data=K5 t)
mutual
noncomputable def Ag (θ:Tp)(k:Kn):V→Value→Prop
 | .none,x=>x= .none
 | .bool b,x=>x= .bool b
 | .int i,x=>∃t,x= .int i t
 | .str s,x=>∃t,x= .str s t
 | .txt,x=>∃s t,x= .str s t
 | .tup xs,x=>∃(a:Addr) (n:Nat) (vs:List Value),(a,HK vs n)∈k.I∧Ap θ k xs vs∧x= .ref a
 | .rcd c fs,v=>∃(x dx:Addr) (es:List C8) (n:Nat),(∃ob,(x,ob)∈k.I∧Qg ob (θ.ac c) dx)∧(dx,dictOf es n)∈k.I∧F9 θ k fs es∧v= .ref x
 | .rng a b,v=>∃(x:Addr) (t u w:Tok),(x,al a b t u w)∈k.I∧v= .ref x
 | .obj i,v=>∃d:DE,k.D[i]? =some (some d)∧v= .ref d.1
 | .fn f,v=>v= .ref (θ.af f)
 | .cls k,v=>v= .ref (θ.ac k)
 | .sta n,v=>v= .ref (θ.as n)
 | .bi id,v=>v= .builtin id
 | .ty n,v=>v= .type n
 | .undef,_=>False
 | .cref _,_=>False
noncomputable def Ap (θ:Tp)(k:Kn):List V→List Value→Prop
 |[],vs=>vs=[]
 |x::xs,vs=>∃v us,Ag θ k x v∧Ap θ k xs us∧vs=v::us
noncomputable def F9 (θ:Tp)(k:Kn):List (Str×V)→List C8→Prop
 |[],es=>es=[]
 |(n,x)::fs,es=>∃h t v us,Ag θ k x v∧F9 θ k fs us∧es=⟨h,.str n t,v⟩::us
end
noncomputable def BI (k k':Kn):Prop:=(∀(i:Nat) (d:DE),k.D[i]? =some (some d)→k'.D[i]? =some (some d))∧∀p∈k.I,p∈k'.I
theorem BI.refl (k:Kn):BI k k:=⟨fun zz zz h=>h,fun zz h=>h⟩
theorem BI.trans {k k' k'':Kn}(a:BI k k')(b:BI k' k''):BI k k'':=⟨fun i d h=>b.1 i d (a.1 i d h),fun p h=>b.2 p (a.2 p h)⟩
theorem BI.app {D:List (Option DE)}{I:Ba}(x:Option DE):BI ⟨D,I⟩ ⟨D++[x],I⟩:=⟨fun zz zz h=>(C6 (AI.mp h).1).trans h,fun zz h=>h⟩
section
variable {θ:Tp}{k k':Kn}
theorem Tr (e:BI k k'):∀a:V,∀v,Ag θ k a v→Ag θ k' a v:=
 V.rec (motive_1:=fun a=>∀v,Ag θ k a v→Ag θ k' a v) (motive_2:=fun xs=>∀vs,Ap θ k xs vs→Ap θ k' xs vs) (motive_3:=fun fs=>∀es,F9 θ k fs es→F9 θ k' fs es) (motive_4:=fun p=>∀v,Ag θ k p.2 v→Ag θ k' p.2 v)
  (fun zz h=>h) (fun zz h=>h) (fun zz zz h=>h) (fun zz zz h=>h) (fun zz zz h=>h) (fun zz h=>h)
  (fun zz ih zz h=>HC h fun a n vs h1 h2 h3=>⟨a,n,vs,e.2 _ h1,ih _ h2,h3⟩)
  (fun zz zz ih zz h=>D6 h fun x dx es n h1 h2 h3 h4=>⟨x,dx,es,n,h1.imp fun zz h=>⟨e.2 _ h.1,h.2⟩,e.2 _ h2,ih _ h3,h4⟩)
  (fun zz zz h=>AR h fun d h1 h2=>⟨d,e.1 _ _ h1,h2⟩) (fun zz zz h=>h) (fun zz zz h=>h) (fun zz zz h=>h)
  (fun zz zz zz h=>HB h fun x t u w h1 h2=>⟨x,t,u,w,e.2 _ h1,h2⟩) (fun zz zz h=>h) (fun zz zz h=>h) (fun zz zz h=>h)
  (fun zz h=>h) (fun zz zz h1 h2 zz h=>BJ h fun v us a b c=>⟨v,us,h1 _ a,h2 _ b,c⟩)
  (fun zz h=>h) (fun zz zz h1 h2 zz h=>El h fun h t v us a b c=>⟨h,t,v,us,h1 _ a,h2 _ b,c⟩)
  (fun zz zz h=>h)
theorem Ag.mono (e:BI k k'){a:V}{v:Value}(h:Ag θ k a v):Ag θ k' a v:=Tr e a v h
theorem Ap.mono (e:BI k k'):∀{xs:List V} {vs:List Value},Ap θ k xs vs→Ap θ k' xs vs:=fun{xs}=>by
 induction xs with
 |nil=>exact id
 |cons x xs ih=>exact fun⟨v,us,a,b,c⟩=>⟨v,us,a.mono e,ih b,c⟩
theorem F9.mono (e:BI k k'):∀{xs:List (Str×V)} {vs:List C8},F9 θ k xs vs→F9 θ k' xs vs:=fun{xs}=>by
 induction xs with
 |nil=>exact id
 |cons x xs ih=>exact fun⟨h,t,v,us,a,b,c⟩=>⟨h,t,v,us,a.mono e,ih b,c⟩
theorem Ag.bool (b:Bool):Ag θ k (.bool b) (.bool b):=rfl
theorem Ag.int (i:Int)(t:Tok):Ag θ k (.int i) (.int i t):=⟨t,rfl⟩
theorem Ag.str (s:Str)(t:Tok):Ag θ k (.str s) (.str s t):=⟨t,rfl⟩
theorem Ag.obj {i:Nat}{d:DE}(h:k.D[i]? =some (some d)):Ag θ k (.obj i) (.ref d.1):=⟨d,h,rfl⟩
theorem Ap.cons {x:V}{v:Value}{xs:List V}{vs:List Value}(h:Ag θ k x v)(hs:Ap θ k xs vs):Ap θ k (x::xs) (v::vs):=⟨v,vs,h,hs,rfl⟩
end
noncomputable def Kv {K:Type}(f:K→V)(θ:Tp)(k:Kn):List (V×V)→List (K×Value)→Prop
 |[],l=>l=[]
 |p::es,l=>∃(i:K) (v:Value) (us:List (K×Value)),p.1=f i∧Ag θ k p.2 v∧Kv f θ k es us∧l=(i,v)::us
theorem Kv.mono {K:Type}{f:K→V}{θ:Tp}{k k':Kn}(e:BI k k'):∀{es:List (V×V)} {l:List (K×Value)},Kv f θ k es l→Kv f θ k' es l:=fun{es}=>by
 induction es with
 |nil=>exact id
 |cons x xs ih=>exact fun h=>Em h fun i v us a b c d=>⟨i,v,us,a,b.mono e,ih c,d⟩
set_option backward.match.sparseCases false in
noncomputable def GP (θ:Tp)(k:Kn):O→DE→Ba→Addr→Obj→Prop
 | .inst c fs,d,hd,a,ob=>(∃o1,hd=[(d.1,o1)]∧Qh θ c o1 a)∧∃es n,ob=dictOf es n∧F9 θ k fs es
 | .list xs,d,hd,a,ob=>hd=[]∧a=d.1∧∃vs n,ob=listOf (AE vs) n∧Ap θ k xs vs
 | .cell v,d,hd,a,ob=>hd=[]∧a=d.1∧∃ov,ob.data= .cell ov∧(Ms v=true∨∃x,ov=some x∧Ag θ k v x)
 | .dict es,d,hd,a,ob=>hd=[]∧a=d.1∧(d.1==Cp)=false∧∃kvs,ob.IsDictOf (Dp θ.prog θ.w) kvs∧Kv V.int θ k es kvs
 | .sdict es,d,hd,a,ob=>hd=[]∧a=d.1∧((d.1==Cp)=false∧es.isEmpty=false)∧∃kvs,ob.IsDictOf (Db θ.prog θ.w) kvs∧Kv V.str θ k es kvs
 | .exc c,d,hd,a,ob=>hd=[]∧a=d.1∧(ob.cls= .ref (θ.ac c)∧Ct θ.S c=true)∧ob.dict=none∧∃t,ob.data=K5 t
 |_,_,_,_,_=>False
set_option backward.match.sparseCases false in
noncomputable def JA (θ:Tp)(J:Ba)(k:Kn):O→Option DE→Ba→Prop
 | .dead,_,L=>L=[]
 | .void,d,L=>d=none∧L=[]
 | .fro es,d,L=>L=[]∧∃d' ob,d=some d'∧(d'.1,ob)∈J∧GP θ k (.dict es) d' [] d'.1 ob
 |o,d,L=>∃d' hd a ob,d=some d'∧L=hd++[(a,ob)]∧GP θ k o d' hd a ob
noncomputable def Cs (θ:Tp)(J:Ba)(k:Kn):List O→List (Option DE)→Ba→Prop
 |[],D,M=>D=[]∧M=[]
 |o::os,D,M=>∃d ds L M',D=d::ds∧M=L++M'∧JA θ J k o d L∧Cs θ J k os ds M'
section
variable {θ:Tp}{J:Ba}{k k':Kn}
theorem GP.mono (e:BI k k'){o:O}{d:DE}{hd:Ba}{a:Addr}{ob:Obj}:GP θ k o d hd a ob→GP θ k' o d hd a ob:=by
 rcases o with⟨c,fs⟩|⟨xs⟩|⟨es⟩|_|⟨v⟩|⟨es⟩|_
 case inst=>exact fun h=>⟨h.1,Ae (fun zz=>Ae fun zz h=>⟨h.1,h.2.mono e⟩) h.2⟩
 case sdict=>exact fun h=>⟨h.1,h.2.1,h.2.2.1,Ae (fun zz h=>⟨h.1,h.2.mono e⟩) h.2.2.2⟩
 case list=>exact fun h=>⟨h.1,h.2.1,Ae (fun zz=>Ae fun zz h=>⟨h.1,h.2.mono e⟩) h.2.2⟩
 case dict=>exact fun h=>⟨h.1,h.2.1,h.2.2.1,Ae (fun zz h=>⟨h.1,h.2.mono e⟩) h.2.2.2⟩
 case cell=>exact fun h=>⟨h.1,h.2.1,Ae (fun zz h=>⟨h.1,h.2.imp id (Ae fun zz h=>⟨h.1,h.2.mono e⟩)⟩) h.2.2⟩
 all_goals exact id
theorem JA.imp {J':Ba}(e:BI k k')(hJ:∀(p:Addr×Obj) kvs,p∈J→p.2.IsDictOf (Dp θ.prog θ.w) kvs→p∈J'){o:O}{d:Option DE}{L:Ba}:JA θ J k o d L→JA θ J' k' o d L:=by
 cases o with
 |dead=>exact id
 |void=>exact id
 |fro es=>exact fun h=>⟨h.1,Ae (fun zz=>Ae fun zz h=>⟨h.1,AR h.2.2.2.2.2 fun zz z zz=>hJ _ _ h.2.1 z,GP.mono (o:=.dict es) e h.2.2⟩) h.2⟩
 |inst c fs=>exact Ae fun zz=>Ae fun zz=>Ae fun zz=>Ae fun zz h=>⟨h.1,h.2.1,h.2.2.mono (o:=.inst c fs) e⟩
 |list xs=>exact Ae fun zz=>Ae fun zz=>Ae fun zz=>Ae fun zz h=>⟨h.1,h.2.1,h.2.2.mono (o:=.list xs) e⟩
 |dict es=>exact Ae fun zz=>Ae fun zz=>Ae fun zz=>Ae fun zz h=>⟨h.1,h.2.1,h.2.2.mono (o:=.dict es) e⟩
 |cell v=>exact Ae fun zz=>Ae fun zz=>Ae fun zz=>Ae fun zz h=>⟨h.1,h.2.1,h.2.2.mono (o:=.cell v) e⟩
 |sdict es=>exact Ae fun zz=>Ae fun zz=>Ae fun zz=>Ae fun zz h=>⟨h.1,h.2.1,h.2.2.mono (o:=.sdict es) e⟩
 |exc c=>exact Ae fun zz=>Ae fun zz=>Ae fun zz=>Ae fun zz h=>⟨h.1,h.2.1,h.2.2.mono (o:=.exc c) e⟩
theorem Cs.imp {J':Ba}(e:BI k k')(hJ:∀(p:Addr×Obj) kvs,p∈J→p.2.IsDictOf (Dp θ.prog θ.w) kvs→p∈J'){os:List O}:∀{D:List (Option DE)} {M:Ba},Cs θ J k os D M→Cs θ J' k' os D M:=by
 induction os with
 |nil=>exact id
 |cons o os ih=>exact Ae fun zz=>Ae fun zz=>Ae fun zz=>Ae fun zz h=>⟨h.1,h.2.1,h.2.2.1.imp e hJ,ih h.2.2.2⟩
theorem Cs.mono (e:BI k k'){os:List O}{D:List (Option DE)}{M:Ba}(h:Cs θ J k os D M):Cs θ J k' os D M:=h.imp e fun zz zz h zz=>h
theorem Cs.split {o:O}{os:List O}:∀{D:List (Option DE)} {M:Ba} {i:Nat},Cs θ J k os D M→os[i]? =some o→
  ∃d pre L post,D[i]? =some d∧M=pre++(L++post)∧JA θ J k o d L∧∀o' d' L',JA θ J k o' d' L'→Cs θ J k (os.set i o') (D.set i d') (pre++(L'++post)):=by
 induction os with
 |nil=>exact fun zz e=>AU e
 |cons o₁ os ih=>
  intro D M i h e
  refine D6 h fun d ds L M' h1 h2 h3 h4=>?_
  subst h1 h2
  rcases i with _|i
  ·exact E1 e fun q=>⟨d,[],L,M',rfl,rfl,q▸h3,fun o' d' L' h'=>⟨d',ds,L',M',rfl,rfl,h',h4⟩⟩
  ·exact D6 (ih h4 e) fun d₁ pre L₁ post e1 e2 e3 K=>⟨d₁,L++pre,L₁,post,e1,by rw[e2,AB],e3,fun o' d' L' h'=>⟨d,ds.set i d',L,pre++(L'++post),rfl,AB ..,h3,K o' d' L' h'⟩⟩
theorem Cs.snoc {o:O}{d:Option DE}{L:Ba}(hc:JA θ J k o d L){os:List O}:∀{D:List (Option DE)} {M:Ba},Cs θ J k os D M→Cs θ J k (os++[o]) (D++[d]) (M++L):=by
 induction os with
 |nil=>exact fun h=>⟨d,[],L,[],by rw[h.1];rfl,by rw[h.2,AK];rfl,hc,rfl,rfl⟩
 |cons o₁ os ih=>exact fun h=>D6 h fun d₁ ds L₁ M' h1 h2 h3 h4=>⟨d₁,ds++[d],L₁,M'++L,by rw[h1];rfl,by rw[h2,AB],h3,ih h4⟩
theorem Cs.length {os:List O}:∀{D:List (Option DE)} {M:Ba},Cs θ J k os D M→os.length=D.length:=by
 induction os with
 |nil=>exact fun h=>h.1▸rfl
 |cons o os ih=>exact fun h=>D6 h fun d ds L M' h1 h2 h3 h4=>by rw[h1,AQ,AQ,ih h4]
end
noncomputable def Qj (φ:Fm)(k:Kn)(m:Str→Option Value)(x:Str)(a:V):Prop:=
 (φ.env.kindOf x=some .local∧Lf a=none∧(Ms a=true∨∃v,m x=some v∧Ag φ.tp k a v))∨(φ.env.kindOf x=some .globalImplicit∧φ.tp.S.glob x=some a∧HO a=true)∨
  (φ.env.kindOf x=some .cell∧∃i q z,a= .cref i∧φ.env.cells.lookup x=some q∧k.D[i]? =some (some (q,z)))
noncomputable def J0 (φ:Fm)(k:Kn)(m:Str→Option Value)(loc:List (Str×V)):Prop:=∀x a,Co x loc=some a→(x==("__debug__":Str))=false∧Qj φ k m x a
theorem Qj.mono {φ:Fm}{k k':Kn}(e:BI k k'){m:Str→Option Value}{x:Str}{a:V}(h:Qj φ k m x a):Qj φ k' m x a:=
 h.imp (fun z=>⟨z.1,z.2.1,z.2.2.imp id (Ae fun zz y=>⟨y.1,y.2.mono e⟩)⟩) (Or.imp id fun z=>⟨z.1,Ae (fun i=>Ae fun q=>Ae fun zz y=>⟨y.1,y.2.1,e.1 _ _ y.2.2⟩) z.2⟩)
theorem J0.mono {φ:Fm}{k k':Kn}(e:BI k k'){m:Str→Option Value}{loc:List (Str×V)}(h:J0 φ k m loc):J0 φ k' m loc:=fun x a q=>⟨(h x a q).1,(h x a q).2.mono e⟩
structure Al (φ:Fm)(k:Kn)(st:St)(h:Heap):Type where
 m:Str→Option Value
 MO:Ba
 F:Fr φ.h₀ φ.env.locals h m
 N:News φ.h₀ φ.env.locals h (MO++(φ.J++k.I))
 nd:((MO++(φ.J++k.I)).map (·.1)).Nodup
 loc:J0 φ k m st.loc
 heap:Cs φ.tp φ.J k st.heap k.D MO
structure Top (θ:Tp):Prop where
 X:θ.K.In θ.base
 T:TopRead θ.p θ.loose θ.mg θ.mb θ.base
 TT:∃mean,PyProof.Rows.Top θ.p θ.loose mean θ.mg θ.mb θ.base
 lim:θ.base.NoLimit
 globSt:∀x a,θ.S.glob x=some a→HO a=true
 globs:∀x a,θ.S.glob x=some a→
  ∃v,Ag θ ⟨[],[]⟩ a v∧(nsIn θ.K Cn x=some (some v)∨(nsIn θ.K Cn x=some none∧bootBuiltins x=some v∧x≠"__name__"))
structure Good (c:Cx):Prop where
 top:Top c.tp
 kind:c.env.scope.kind= .function
 gl:c.env.globals=Cn
 bi:c.env.builtins=builtinsNs
 frames:c.A.frames=some c.outer
 stays:c.base.StaysIn c.h₀
 ff:∀h m news,Fr c.h₀ c.env.locals h m→News c.h₀ c.env.locals h news→(hideAll h (news.map (·.1))).FunFrames c.base c.outer
theorem Good.X {c:Cx}(G:Good c):c.K.In c.h₀:=G.top.X.keeps G.stays
theorem Good.g {c:Cx}(G:Good c):c.h₀.Ns Cn c.tp.mg:=G.top.T.g.keeps G.stays
theorem Good.b {c:Cx}(G:Good c):c.h₀.Ns builtinsNs c.tp.mb:=G.top.T.b.keeps G.stays
theorem Good.nolim {c:Cx}(G:Good c):c.h₀.NoLimit:=G.top.lim.keeps G.stays
noncomputable abbrev Cx.M (c:Cx):Model:=model c.prog c.w
noncomputable def FV {α β:Type}(c:Cx)(C:Kn→α→β→Prop)(k:Kn)(s:Shared)(K:α→St→Ay)(o:Except V V×List O)(Q:β→Shared→Prop):Prop:=
 ∀k' a b st' h' tk,BI k k'→Al c.fm k' st' h'→C k' a b→Y c.l o (K a st')→Q b {s with heap:=h',toks:=tk}
noncomputable def bQ (B h:Heap)(e:Addr)(vs:Array Value):Prop:=vs[1]? =some .none∨∃T oT ts fl,vs[1]? =some (.ref T)∧B.get? T=none∧T≠e∧h.get? T=some oT∧oT.data= .fields ts∧ts[3]? =some fl
structure FU (B:Heap)(l:List Env)(e:Addr)(cls:Value)(dx:Addr)(h:Heap):Prop where
 stays:B.StaysIn h
 new:B.get? e=none
 frames:h.FunFrames B l
 obj:∃oe vs,h.get? e=some oe∧oe.cls=cls∧oe.dict=some dx∧oe.data= .fields vs∧bQ B h e vs
structure DC (φ:Fm)(l:List Env)(k:Kn)(st:St)(h:Heap)(a:V)(e:Addr):Type where
 B:Heap
 m:Str→Option Value
 MO:Ba
 j:Nat
 fs:List (Str×V)
 dx:Addr
 es:List C8
 n:Nat
 base:φ.tp.base.StaysIn B
 fly:FU B l e (.ref (φ.tp.ac j)) dx h
 rows:∀p∈MO++(φ.J++k.I),B.get? p.1=some p.2∧φ.h₀.get? p.1=none
 nd:((MO++(φ.J++k.I)).map (·.1)).Nodup
 up:φ.h₀.UpToSlots h
 ns:h.Ns φ.env.locals m
 above:φ.h₀.objs.size≤φ.env.locals
 loc:J0 φ k m st.loc
 heap:Cs φ.tp φ.J k st.heap k.D MO
 isx:Ct φ.tp.S j=true
 val:a= .rcd j fs
 row:(dx,dictOf es n)∈k.I
 flds:F9 φ.tp k fs es
noncomputable def Fy (c:Cx)(k:Kn)(s:Shared)(X:V→St→Ay)(o:Except V V×List O)(E:Value→Shared→Prop):Prop:=
 ∀k' a st' e h' tk,BI k k'→DC c.fm c.outer k' st' h' a e→Y c.l o (X a st')→E (.ref e) {s with heap:=h',toks:=tk}
noncomputable def ER (c:Cx)(X:V→St→Ay)(o:Except V V×List O):Prop:=∀a st',Y c.l o (X a st')→False
noncomputable def AY {α β:Type}(c:Cx)(k₀:Kn)(C:Kn→α→β→Prop)(t:Sem β)(m:M α):Prop:=
 ∀k st s K X o Q E,BI k₀ k→Al c.fm k st s.heap→Y c.l o (m st K X)→FV c C k s K o Q→Fy c k s X o E→wpAny c.M c.A t Q E s
section
variable {α β:Type}{c:Cx}{C:Kn→α→β→Prop}{k k':Kn}{s:Shared}{K:α→St→Ay}{X:V→St→Ay}{o:Except V V×List O}{Q:β→Shared→Prop}{E:Value→Shared→Prop}
theorem FV.ext {h':Heap}{tk:Nat}(H:FV c C k s K o Q)(e:BI k k'):FV c C k' {s with heap:=h',toks:=tk} K o Q:=fun k'' a b st' h'' tk' l R hc P=>H k'' a b st' h'' tk' (e.trans l) R hc P
theorem Fy.ext {h':Heap}{tk:Nat}(H:Fy c k s X o E)(e:BI k k'):Fy c k' {s with heap:=h',toks:=tk} X o E:=fun k'' a st' x h'' tk' l R P=>H k'' a st' x h'' tk' (e.trans l) R P
theorem ER.err {c':Cx}{k:Kn}{s:Shared}{E:Value→Shared→Prop}(H:ER c X o)(e:c'.l=c.l:=by rfl):Fy c' k s X o E:=fun zz a st' zz zz zz zz zz P=>(H a st' (e▸P)).elim
theorem ER.no:ER c (fun zz zz=>.none) o:=fun zz zz P=>P.elim
theorem Fy.no {E:Value→Shared→Prop}:Fy c k s (fun zz zz=>.none) o E:=ER.no.err
theorem FV.now {st:St}{a:α}{b:β}(H:FV c C k s K o Q)(tk:Nat)(R:Al c.fm k st s.heap)(hc:C k a b)(P:Y c.l o (K a st)):Q b {s with toks:=tk}:=H k a b st s.heap tk (.refl _) R hc P
end
section
variable {α β:Type}{c:Cx}{k:Kn}{C:Kn→α→β→Prop}{t:Sem β}{m:M α}
theorem AY.pure {a:α}{b:β}(h:∀k',BI k k'→C k' a b):AY c k C (Bn b) (.pure a):=
 fun k₁ st s K X o Q E l R P HQ zz=>AJ (HQ.now s.toks R (h _ l) P)
theorem AY.bind {α' β':Type}{C':Kn→α'→β'→Prop}{f:β→Sem β'}{g:α→M α'}(h:AY c k C t m)(H:∀k' a b,BI k k'→C k' a b→AY c k' C' (f b) (g a)):AY c k C' (t >>= f) (m.bind g):=
 fun k₁ st s K X o Q E l R P HQ HE=>AD (h k₁ st s _ X o _ E l R P (fun k' a b st' h' tk l' R' hc P'=>H k' a b (l.trans l') hc k' st' _ K X o Q E (.refl _) R' P' (HQ.ext l') (HE.ext l')) HE)
theorem AY.via {γ:Type}{t:Sem γ}{f:γ→Sem β}(x:γ)(hx:∀(Q:γ→Shared→Prop) E s,Q x s→wpAny c.M c.A t Q E s)(h:AY c k C (f x) m):AY c k C (t >>= f) m:=
 fun k₁ st s K X o Q E l R P HQ HE=>AD (hx _ _ _ (h k₁ st s K X o Q E l R P HQ HE))
theorem AY.hold {vs:List Value}(h:AY c k C t m):AY c k C (Bx vs t) m:=fun k₁ st s K X o Q E l R P HQ HE=>BA (h k₁ st s K X o Q E l R P HQ HE)
theorem AY.stand {pos:Pos}{f:Unit→Sem β}(h:AY c k C (f ()) m):AY c k C (D3 pos >>= f) m:=.via () (fun zz zz zz h=>Bz h) h
theorem AY.stuck:AY c k C t (Internal.stuck:M α):=fun zz zz zz zz zz zz zz zz zz zz P=>P.elim
theorem AY.ite {b:Bool}{m':M α}(h:b=true→AY c k C t m)(h':b=false→AY c k C t m'):AY c k C t (Ej b m m'):=by
 rcases b with _|_
 ·exact fun k₁ st s K X o Q E l R P HQ HE=>h' rfl k₁ st s K X o Q E l R P HQ HE
 ·exact fun k₁ st s K X o Q E l R P HQ HE=>h rfl k₁ st s K X o Q E l R P HQ HE
theorem AY.iteS {b:Bool}{m':M α}(h:b=true→AY c k C t m)(h':b=false→AY c k C t m'):AY c k C t (aK b m m'):=by
 rcases b with _|_
 ·exact h' rfl
 ·exact h rfl
theorem AY.chk {b:Bool}(h:b=true→AY c k C t m):AY c k C t (chk b m):=.iteS h fun zz=>.stuck
theorem AY.req {b:Bool}(h:b=true→AY c k C t m):AY c k C t (req b m):=.ite h fun zz=>.stuck
theorem AY.guard {p:Prop}[Decidable p](h:p→AY c k C t m):AY c k C t (Internal.chk (decide p) m):=.chk fun e=>h (of_decide_eq_true e)
theorem AY.guardD {p:Prop}[Decidable p](h:p→AY c k C t m):AY c k C t (Internal.req (decide p) m):=.req fun e=>h (of_decide_eq_true e)
theorem AY.sizeS {n:Nat}(h:n≤lim→AY c k C t m):AY c k C t (Internal.chk (BF n) m):=.chk fun e=>h (Bg e)
theorem AY.size {n:Nat}(h:n≤lim→AY c k C t m):AY c k C t (Internal.req (BF n) m):=.req fun e=>h (Bg e)
theorem AY.ifp {p:Prop}[Decidable p]{m':M α}(h:p→AY c k C t m)(h':¬p→AY c k C t m'):AY c k C t (if p then m else m'):=
 if q:p then by rw[if_pos q];exact h q else by rw[if_neg q];exact h' q
theorem AY.gp {p:Prop}[Decidable p](h:p→AY c k C t m):AY c k C t (if p then m else Internal.stuck):=.ifp h fun zz=>.stuck
theorem AY.look {γ:Type}{o:Option γ}{g:γ→M α}(h:∀x,o=some x→AY c k C t (g x)):AY c k C t ((B2 o).bind g):=by
 rcases o with _|x
 ·exact fun zz zz zz zz zz zz zz zz zz zz P=>P.elim
 ·exact h x rfl
theorem AY.dyn {u:U}{o:Option u.T}{g:u.T→M α}(h:∀x,o=some x→AY c k C t (g x)):AY c k C t ((Internal.dyn u o).bind g):=by
 rcases o with _|x
 ·exact fun zz zz zz zz zz zz zz zz zz zz P=>P.elim
 ·exact fun k₁ st s K X o Q E l R P HQ HE=>h x rfl k₁ st s K X o Q E l R P HQ HE
theorem AY.last {o:Option α}(h:∀x,o=some x→AY c k C t (.pure x)):AY c k C t (B2 o):=by
 rcases o with _|x
 ·exact fun zz zz zz zz zz zz zz zz zz zz P=>P.elim
 ·exact h x rfl
end
section
variable {γ:Type}{l:Lv}{o:Except V V×List O}{G:Prop}
theorem Bh {x:Option γ}{f:γ→Ay}(P:Y l o (oB x f))(h:∀a,x=some a→Y l o (f a)→G):G:=by
 rcases x with _|a
 ·exact P.elim
 ·exact h a rfl P
theorem Di {u:U}{x:Option u.T}{f:u.T→Ay}(P:Y l o (.opt u x f))(h:∀a,x=some a→Y l o (f a)→G):G:=by
 rcases x with _|a
 ·exact P.elim
 ·exact h a rfl P
theorem Gc {h:List O}{i:Nat}{f:O→Ay}(P:Y l o (N7 h i f))(H:∀ob,h[i]? =some ob→Y l o (f ob)→G):G:=by
 have D:∀{i:Nat},Y l o (.opt .ob (h[i]?:Option O) f)→(∀ob,h[i]? =some ob→Y l o (f ob)→G)→G:=fun P H=>Di P H
 rcases i with _|i
 ·
  rcases h with _|⟨a,h⟩
  ·exact P.elim
  ·exact H a rfl P
 ·exact D P H
theorem JH {α:Type}{p:O→Option γ}{i:Nat}{g:γ→M α}{st:St}{K:α→St→Ay}{X:V→St→Ay}(P:Y l o (((Internal.rd p i).bind g) st K X))(H:∀ob x,st.heap[i]? =some ob→p ob=some x→Y l o (g x st K X)→G):G:=
 Gc P fun ob e P=>Bh P fun x e2 P=>H ob x e e2 P
theorem GF {α:Type}{b:Bool}{m:M α}{st:St}{K:α→St→Ay}{X:V→St→Ay}(P:Y l o (chk b m st K X))(h:b=true→Y l o (m st K X)→G):G:=by
 rcases b with _|_
 ·exact P.elim
 ·exact h rfl P
theorem Jn {α:Type}{b:Bool}{m:M α}{st:St}{K:α→St→Ay}{X:V→St→Ay}(P:Y l o (req b m st K X))(h:b=true→Y l o (m st K X)→G):G:=by
 rcases b with _|_
 ·exact P.elim
 ·exact h rfl P
theorem Ef {α:Type}{n:Nat}{m:M α}{st:St}{K:α→St→Ay}{X:V→St→Ay}(P:Y l o (req (BF n) m st K X))(h:n≤lim→Y l o (m st K X)→G):G:=Jn P fun e=>h (Bg e)
theorem JY {b:Bool}{x:Ay}(P:Y l o (bif b then x else .none))(h:b=true→Y l o x→G):G:=by
 rcases b with _|_
 ·exact P.elim
 ·exact h rfl P
theorem ZV {b:Bool}{x:Ay}(P:Y l o (.ite b x .none))(h:b=true→Y l o x→G):G:=by
 rcases b with _|_
 ·exact P.elim
 ·exact h rfl P
theorem LV {a b:V}(P:QX a=some b)(h:¬Ms a=true→a=b→G):G:=by
 unfold QX at P
 by_cases u:Ms a=true
 ·rw[if_pos u] at P;exact AU P
 ·rw[if_neg u] at P;exact h u (AG P)
theorem IJ {p:Prop}[Decidable p]{x:Option γ}{o:γ}(P:(if p then x else none)=some o)(h:p→x=some o→G):G:=by
 by_cases q:p
 ·rw[if_pos q] at P;exact h q P
 ·rw[if_neg q] at P;exact AU P
end
section
variable {α β:Type}{c:Cx}{k:Kn}{C:Kn→α→β→Prop}{t:Sem β}{m:M α}
theorem AY.rd {γ:Type}{i:Nat}{p:O→Option γ}{g:γ→M α}
  (h:∀k' st s K X o Q E ob x,BI k k'→Al c.fm k' st s.heap→st.heap[i]? =some ob→p ob=some x→Y c.l o (g x st K X)→FV c C k' s K o Q→Fy c k' s X o E→wpAny c.M c.A t Q E s):AY c k C t ((Internal.rd p i).bind g):=
 fun k₁ st s K X o Q E l R P HQ HE=>JH P fun ob x e1 e2 P=>h k₁ st s K X o Q E ob x l R e1 e2 P HQ HE
theorem AY.still {a:α}(h:∀k' s Q E,BI k k'→(∀tk b,C k' a b→Q b {s with toks:=tk})→wpAny c.M c.A t Q E s):AY c k C t (.pure a):=
 fun k₁ st s K X o Q E l R P HQ zz=>h k₁ s Q E l fun tk b hc=>HQ.now tk R hc P
end
end
theorem Ln {D:List (Option DE)}{i:Nat}{d:DE}(hd:D[i]? =some (some d)):D.set i (some d)=D:=List.ext_getElem? fun j=>by
 rw[Ed]
 split
 ·next z=>subst z;rw[if_pos (AI.mp hd).1,hd]
 ·rfl
theorem Cv:lim≤CM:=by unfold lim CM;decide
theorem M7 (A L X:Ba):CK ((A++L)++X) (L++(A++X)):=(AB A L X).symm▸BE A L X
theorem Q8 (A J L I:Ba):CK (A++(J++(L++I))) (L++(A++(J++I))):=(DG A (BE J L I)).trans (BE A L (J++I))
theorem Hp {L X:Ba}(h1:(L.map (·.1)).Nodup)(h2:(X.map (·.1)).Nodup)(hf:∀q∈L,∀p∈X,p.1≠q.1):((L++X).map (·.1)).Nodup:=by
 rw[Aa,CC]
 exact⟨h1,h2,fun a ha b hb e=>AR (Bq.mp ha) fun q hq e1=>AR (Bq.mp hb) fun p hp e2=>hf q hq p hp (e2.trans (e.symm.trans e1.symm))⟩
theorem FC (a:Addr)(o:Obj):(([(a,o)]:Ba).map (·.1)).Nodup:=by simp
theorem FR {X Y:Ba}(p:CK X Y)(h:(Y.map (·.1)).Nodup):(X.map (·.1)).Nodup:=(p.map (·.1)).nodup_iff.mpr h
section
variable {φ:Fm}{k:Kn}{st:St}{h h':Heap}
noncomputable def Al.same (R:Al φ k st h)(F':Fr φ.h₀ φ.env.locals h' R.m)(N':News φ.h₀ φ.env.locals h' (R.MO++(φ.J++k.I))):Al φ k st h':=⟨R.m,R.MO,F',N',R.nd,R.loc,R.heap⟩
noncomputable def Al.push (R:Al φ k st h){o:O}{d:Option DE}{L:Ba}(F':Fr φ.h₀ φ.env.locals h' R.m)(N':News φ.h₀ φ.env.locals h' (L++(R.MO++(φ.J++k.I))))(hc:JA φ.tp φ.J k o d L)(hn:(L.map (·.1)).Nodup)
  (hf:∀q∈L,∀p∈R.MO++(φ.J++k.I),p.1≠q.1):Al φ ⟨k.D++[d],k.I⟩ ⟨st.loc,st.heap++[o]⟩ h':=
 ⟨R.m,R.MO++L,F',fun p hp=>N' p ((M7 ..).mem_iff.mp hp),FR (M7 ..) (Hp hn R.nd hf),R.loc.mono (BI.app d),Cs.snoc (hc.imp (BI.app d) fun zz zz h zz=>h) (R.heap.mono (BI.app d))⟩
theorem BI.more (L:Ba):BI k ⟨k.D,L++k.I⟩:=⟨fun zz zz h=>h,fun zz h=>AX _ h⟩
noncomputable def Al.pushI (R:Al φ k st h){L:Ba}(F':Fr φ.h₀ φ.env.locals h' R.m)(N':News φ.h₀ φ.env.locals h' (L++(R.MO++(φ.J++k.I))))(hn:(L.map (·.1)).Nodup)(hf:∀q∈L,∀p∈R.MO++(φ.J++k.I),p.1≠q.1):Al φ ⟨k.D,L++k.I⟩ st h':=
 ⟨R.m,R.MO,F',fun p hp=>N' p ((Q8 ..).mem_iff.mp hp),FR (Q8 ..) (Hp hn R.nd hf),R.loc.mono (BI.more L),R.heap.mono (BI.more L)⟩
theorem Al.newAt (R:Al φ k st h)(d:DE):Ag φ.tp ⟨k.D++[some d],k.I⟩ (.obj st.heap.length) (.ref d.1):=⟨d,by rw[R.heap.length];simp,rfl⟩
theorem XE {L:Ba}{a:Addr}{o:Obj}(hf:∀p∈L,p.1<a):∀q∈[(a,o)],∀p∈L,p.1≠q.1:=fun q hq p hp=>by rw[Ac.mp hq];exact As (hf p hp)
noncomputable def Al.pushList (R:Al φ k st h){xs:List V}{vs:List Value}{l:Addr}{n:Nat}(hs:Ap φ.tp k xs vs)(F':Fr φ.h₀ φ.env.locals h' R.m)(N':News φ.h₀ φ.env.locals h' ((l,listOf vs.toArray n)::(R.MO++(φ.J++k.I))))
  (hf:∀p∈R.MO++(φ.J++k.I),p.1<l):Al φ ⟨k.D++[some (l,0)],k.I⟩ ⟨st.loc,st.heap++[.list xs]⟩ h':=
 R.push (L:=[(l,listOf vs.toArray n)]) (o:=.list xs) (d:=some (l,0)) F' N' ⟨(l,0),[],l,_,rfl,rfl,rfl,rfl,vs,n,rfl,hs⟩ (FC ..) (XE hf)
theorem Al.bears (R:Al φ k st h):∀p∈k.I,h.get? p.1=some p.2:=fun p hp=>(R.N p (AX _ (AX _ hp))).1
theorem Al.inI (R:Al φ k st h){p:Addr×Obj}(hp:p∈k.I):p∈R.MO++(φ.J++k.I):=AX _ (AX _ hp)
theorem GP.row {θ:Tp}{J:Ba}{o:O}{d:DE}{hd:Ba}{a:Addr}{ob:Obj}(h:GP θ k o d hd a ob):JA θ J k o (some d) (hd++[(a,ob)]):=by
 cases o with
 |dead=>exact h.elim
 |void=>exact h.elim
 |fro es=>exact h.elim
 |inst c fs=>exact⟨d,hd,a,ob,rfl,rfl,h⟩
 |list xs=>exact⟨d,hd,a,ob,rfl,rfl,h⟩
 |dict es=>exact⟨d,hd,a,ob,rfl,rfl,h⟩
 |cell v=>exact⟨d,hd,a,ob,rfl,rfl,h⟩
 |sdict es=>exact⟨d,hd,a,ob,rfl,rfl,h⟩
 |exc c=>exact⟨d,hd,a,ob,rfl,rfl,h⟩
noncomputable def live:O→Bool
 | .dead=>false
 | .void=>false
 | .fro _=>false
 |_=>true
theorem JA.body {θ:Tp}{J:Ba}{o:O}{d:Option DE}{L:Ba}(hl:live o=true)(h:JA θ J k o d L):∃d' hd a ob,d=some d'∧L=hd++[(a,ob)]∧GP θ k o d' hd a ob:=by
 rcases o with _|_|_|⟨es⟩|_
 case dead=>cases hl
 case void=>cases hl
 case fro=>cases hl
 all_goals exact h
theorem Lw (A hd B X:Ba)(p:Addr×Obj):(A++((hd++[p])++B))++X=(A++hd)++p::(B++X):=by simp
structure Ge (R:Al φ k st h)(i:Nat)(o:O)(v:Value)(d:DE)(hd:Ba)(a:Addr)(ob:Obj)(p1 p2:Ba):Prop where
 hD:k.D[i]? =some (some d)
 hv:v= .ref d.1
 body:GP φ.tp k o d hd a ob
 eq:R.MO=p1++((hd++[(a,ob)])++p2)
 hpR:∀o' hd' a' ob',GP φ.tp k o' d hd' a' ob'→Cs φ.tp φ.J k (st.heap.set i o') k.D (p1++((hd'++[(a',ob')])++p2))
theorem Al.turn (R:Al φ k st h){i:Nat}{o:O}(e:st.heap[i]? =some o)(hl:live o=true){v:Value}(hv:Ag φ.tp k (.obj i) v){G:Prop}(K:∀d hd a ob p1 p2,Ge R i o v d hd a ob p1 p2→G):G:=by
 refine AR hv fun d hd hv=>D6 (R.heap.split e) fun d' p1 L p2 e1 e2 e3 H=>?_
 refine El (e3.body hl) fun d₁ hh a ob e4 e5 e6=>?_
 subst e4 e5
 cases AG (AG (hd.symm.trans e1))
 refine K d hh a ob p1 p2 ⟨hd,hv,e6,e2,fun o' hd' a' ob' hb=>?_⟩
 have z:=H o' (some d) _ hb.row
 rwa [Ln hd] at z
theorem WJ {h₀:Heap}{L a:Addr}{ob ob':Obj}{pre post:Ba}(N:News h₀ L h (pre++(a,ob)::post))(h1:∀p∈pre,p.1≠a)(h2:∀p∈post,p.1≠a)(hs:Bd a h h')(ho:h'.get? a=some ob'):News h₀ L h' (pre++(a,ob')::post):=
 fun p hp=>(BB.mp hp).elim (fun z=>have q:=N p (B3 _ z);⟨(hs.2 _ (h1 p z)).trans q.1,q.2⟩) fun z=>(AZ.mp z).elim (fun z=>by
  have q:=N (a,ob) (AX _ (.head _))
  rw[z];exact⟨ho,q.2⟩) fun z=>have q:=N p (AX _ (.tail _ z));⟨(hs.2 _ (h2 p z)).trans q.1,q.2⟩
theorem VP {h₀:Heap}{L a:Addr}{m:Str→Option Value}(F:Fr h₀ L h m)(h1:a≠L)(h2:h₀.get? a=none)(hs:Bd a h h'):Fr h₀ L h' m:=
 ⟨F.ns.sameBut hs (DS h1),fun b o e=>(hs.2 b (fun z=>by rw[z,h2] at e;exact AU e)).trans (F.keep b o e),F.above⟩
section
variable {R:Al φ k st h}{i:Nat}{o:O}{v:Value}{d:DE}{hd:Ba}{a:Addr}{ob:Obj}{p1 p2:Ba}(T:Ge R i o v d hd a ob p1 p2)
include T
theorem Ge.all:R.MO++(φ.J++k.I)=(p1++hd)++(a,ob)::(p2++(φ.J++k.I)):=by rw[T.eq,Lw]
theorem Ge.N:News φ.h₀ φ.env.locals h ((p1++hd)++(a,ob)::(p2++(φ.J++k.I))):=T.all▸R.N
theorem Ge.nd:(((p1++hd)++(a,ob)::(p2++(φ.J++k.I))).map (·.1)).Nodup:=T.all▸R.nd
theorem Ge.n1:∀p∈p1++hd,p.1≠a:=fun p hp z=>by
 have nd:=T.nd
 rw[Aa,An,CC] at nd
 exact nd.2.2 p.1 (BO hp) a (.head _) z
theorem Ge.n2:∀p∈p2++(φ.J++k.I),p.1≠a:=fun p hp z=>by
 have nd:=T.nd
 rw[Aa,An,CC,C4] at nd
 exact nd.2.1.1 (Bq.mpr ⟨p,hp,z⟩)
theorem Ge.at:(a,ob)∈R.MO++(φ.J++k.I):=by rw[T.all];exact AX _ (.head _)
theorem Ge.row:h.get? a=some ob∧a≠φ.env.locals∧φ.h₀.get? a=none:=R.N (a,ob) T.at
theorem Ge.mem {p:Addr×Obj}(hp:p∈hd):p∈R.MO++(φ.J++k.I):=by rw[T.all];exact B3 _ (AX _ hp)
noncomputable def Ge.put {o':O}{ob':Obj}(F':Fr φ.h₀ φ.env.locals h' R.m)(N':News φ.h₀ φ.env.locals h' ((p1++hd)++(a,ob')::(p2++(φ.J++k.I))))(hb:GP φ.tp k o' d hd a ob'):Al φ k ⟨st.loc,st.heap.set i o'⟩ h':=
 ⟨R.m,p1++((hd++[(a,ob')])++p2),F',by rw[Lw];exact N',by
  have nd:=T.nd
  rw[Aa,An] at nd
  rw[Lw,Aa,An];exact nd,R.loc,T.hpR o' hd a ob' hb⟩
noncomputable def Ge.but {o':O}{ob':Obj}(hs:Bd a h h')(ho:h'.get? a=some ob')(hb:GP φ.tp k o' d hd a ob'):Al φ k ⟨st.loc,st.heap.set i o'⟩ h':=
 T.put (VP R.F T.row.2.1 T.row.2.2 hs) (WJ T.N T.n1 T.n2 hs ho) hb
end
theorem Nh {a:Addr}{o o':Obj}{post:Ba}(h':∀p∈post,p.1≠a){pre:Ba}:(∀p∈pre,p.1≠a)→Upd a o o' (pre++(a,o)::post) (pre++(a,o')::post):=by
 induction pre with
 |nil=>exact fun zz=>.head h'
 |cons q pre ih=>exact fun h=>.tail (h q (.head _)) (ih fun p hp=>h p (.tail _ hp))
end
section
variable {θ:Tp}{k:Kn}
theorem Ap.length {xs:List V}:∀{vs:List Value},Ap θ k xs vs→xs.length=vs.length:=by
 induction xs with
 |nil=>exact fun h=>h▸rfl
 |cons x xs ih=>exact fun h=>BJ h fun v us zz h e=>by rw[e,AQ,AQ,ih h]
theorem Ap.get {xs:List V}:∀{vs:List Value} {i:Nat} {x:V},Ap θ k xs vs→xs[i]? =some x→∃v,vs[i]? =some v∧Ag θ k x v:=by
 induction xs with
 |nil=>exact fun zz e=>AU e
 |cons y xs ih=>
  intro vs i x h e
  refine BJ h fun v us h1 h2 e1=>?_
  subst e1
  rcases i with _|i
  ·exact⟨v,rfl,AG e▸h1⟩
  ·exact(ih (vs:=us) (i:=i) h2 e:)
theorem Ap.append {ys:List V}{ws:List Value}(hk:Ap θ k ys ws){xs:List V}:∀{vs:List Value},Ap θ k xs vs→Ap θ k (xs++ys) (vs++ws):=by
 induction xs with
 |nil=>exact fun h=>h▸hk
 |cons x xs ih=>exact fun h=>BJ h fun v us h1 h2 e=>e▸⟨v,us++ws,h1,ih h2,rfl⟩
theorem Ap.one {x:V}{v:Value}(h:Ag θ k x v):Ap θ k [x] [v]:=⟨v,[],h,rfl,rfl⟩
theorem Ap.take {xs:List V}:∀{vs:List Value} (n:Nat),Ap θ k xs vs→Ap θ k (xs.take n) (vs.take n):=by
 induction xs with
 |nil=>exact fun n h=>by rw[show _=[] from h,FJ,FJ];exact rfl
 |cons x xs ih=>
  intro vs n h
  refine BJ h fun v us h1 h2 e=>?_
  subst e
  rcases n with _|n
  ·exact rfl
  ·exact⟨v,_,h1,ih n h2,rfl⟩
theorem Ap.drop {xs:List V}:∀{vs:List Value} (n:Nat),Ap θ k xs vs→Ap θ k (xs.drop n) (vs.drop n):=by
 induction xs with
 |nil=>exact fun n h=>by rw[show _=[] from h,List.drop_nil,List.drop_nil];exact rfl
 |cons x xs ih=>
  intro vs n h
  refine BJ h fun v us h1 h2 e=>?_
  subst e
  rcases n with _|n
  ·exact⟨v,us,h1,h2,rfl⟩
  ·exact ih n h2
theorem Ap.set {xs:List V}:∀{vs:List Value} (n:Nat) {x:V} {v:Value},Ap θ k xs vs→Ag θ k x v→Ap θ k (xs.set n x) (vs.set n v):=by
 induction xs with
 |nil=>exact fun n zz zz h zz=>by rw[show _=[] from h];exact rfl
 |cons y xs ih=>
  intro vs n x v h hx
  refine BJ h fun u us h1 h2 e=>?_
  subst e
  rcases n with _|n
  ·exact⟨v,us,hx,h2,rfl⟩
  ·exact⟨u,_,h1,ih n h2 hx,rfl⟩
theorem Ap.last {xs:List V}:∀{vs:List Value} {z:V},Ap θ k xs vs→xs.getLast? =some z→∃ps u,Ap θ k xs.dropLast ps∧Ag θ k z u∧kl_last vs=some (ps,u):=by
 induction xs with
 |nil=>exact fun zz e=>AU e
 |cons y xs ih=>
  intro vs z h e
  refine BJ h fun u us h1 h2 e1=>?_
  subst e1
  rcases xs with _|⟨y2,xs⟩
  ·
   cases (show us=[] from h2)
   exact⟨[],u,rfl,AG e▸h1,rfl⟩
  ·
   obtain⟨ps,w,a1,a2,a3⟩:=ih (vs:=us) h2 (by rw[List.getLast?_cons_cons] at e;exact e)
   exact⟨u::ps,w,⟨u,ps,h1,a1,rfl⟩,a2,by unfold kl_last;rw[a3]⟩
theorem F9.look {n:Str}{fs:List (Str×V)}:∀{es:List C8},F9 θ k fs es→match Co n fs with|some x=>∃v,getL n es=some (some v)∧Ag θ k x v|none=>getL n es=some none:=by
 induction fs with
 |nil=>exact fun h=>by rw[show _=[] from h];exact rfl
 |cons p fs ih=>
  intro es h
  refine El h fun hh t v us h1 h2 e=>?_
  ·subst e
   by_cases q:n=p.1
   ·rw[GC,if_pos q]
    refine⟨v,?_,h1⟩
    unfold getL
    rw[List.find?_cons_of_pos (p:=fun e:C8=>e.key.isStr n) (show(Value.str p.1 t).isStr n=true from beq_iff_eq.mpr q.symm)]
   ·have e2:(p.1==n)=false:=beq_eq_false_iff_ne.mpr fun z=>q z.symm
    rw[GC,if_neg q]
    have e3:getL n (⟨hh,.str p.1 t,v⟩::us)=getL n us:=by
     unfold getL
     rw[List.find?_cons_of_neg (p:=fun e:C8=>e.key.isStr n) (by rw[show(Value.str p.1 t).isStr n=false from e2];exact AS)]
     rfl
    rw[e3]
    exact ih h2
theorem F9.put {n:Str}{x:V}{v:Value}(hx:Ag θ k x v)(hsh:Int)(tk:Tok){fs:List (Str×V)}:∀{es:List C8},F9 θ k fs es→F9 θ k (put n x fs) (putL n hsh (.str n tk) v es):=by
 induction fs with
 |nil=>exact fun h=>by rw[show _=[] from h];exact⟨hsh,tk,v,[],hx,rfl,rfl⟩
 |cons p fs ih=>
  intro es h
  refine El h fun hh t u us h1 h2 e=>?_
  ·subst e
   rw[ZH]
   unfold putL
   by_cases q:n=p.1
   ·rw[if_pos q,if_pos (show(Value.str p.1 t).isStr n=true from beq_iff_eq.mpr q.symm)]
    exact⟨hh,t,v,us,hx,h2,rfl⟩
   ·rw[if_neg q,if_neg (show ¬(Value.str p.1 t).isStr n=true from fun z=>q (beq_iff_eq.mp z).symm)]
    exact⟨hh,t,u,_,h1,ih h2,rfl⟩
theorem F9.length {fs:List (Str×V)}:∀{es:List C8},F9 θ k fs es→fs.length=es.length:=by
 induction fs with
 |nil=>exact fun h=>by rw[show _=[] from h];rfl
 |cons x xs ih=>exact fun h=>El h fun zz zz v us zz h e=>by rw[e,AQ,AQ,ih h]
end
noncomputable def NT:Str:=⟨#[102,111,117,110,100,32,117,110,107,110,111,119,110,32,101,115,99,97,112,101,32,99,104,97,114,97,99,116,101,114,32,37,114]⟩
theorem Rk {t:Sem Fin}(h:∀(prog:C0) (w:World) (A:Around) (s:Shared) (Q:Fin→Shared→Prop) (E:Value→Shared→Prop),(∀T t' k,Q (.done (.ret (.str T t'))) {s with toks:=k})→wpAny (model prog w) A t Q E s):
  Meets t (fun zz R s=>∀T t' k,R (.ok (.ret (.str T t'))) {s with toks:=k}):=
 Meets.of_wp fun prog w A zz s hS=>h prog w A.in1 s _ _ fun T t' k=>⟨_,rfl,hS T t' k⟩
theorem LK {M:Model}{A:Around}{E:Value→Shared→Prop}{s:Shared}{w:DI.Str.Writer}{T:PySem.Str}{N:Nat}{id:String}{Q:Fin→Shared→Prop}(g:KPc.Good w T N)(hN:N≤16777216)
  (h:∀T t k,Q (.done (.ret (.str T t))) {s with toks:=k}):wpAny M A (w.finish id) Q E s:=KPc.finish_ok g hN rfl fun t k=>h T t k
theorem J4 {prog:C0}{w:World}{A:Around}{E:Value→Shared→Prop}{s:Shared}{base:Nat}{x:Str}{t:Tok}{Q:Value→Shared→Prop}(h:Q (.str (reprText x) s.toks) {s with toks:=s.toks+1})(hx:(reprText x).length≤CM):wpAny (model prog w) A (pyReprObjUnder base (.str x t)) Q E s:=by
 have hT:=Fh s x t
 refine AD (AJ ?_)
 refine AD (wpAny_specialOf (name:=A8 "__repr__") hT F.slot_str_repr.lookup ?_)
 refine AD (wpAny_callSpecialIfBoundBy?_slotG (name:=A8 "__repr__") hT F.slot_str_repr.toG ?_)
 refine call_gives F.slot_str_repr hT F.entry_str_repr (F.args_str_repr_1 _) (gives_str_repr x t) ⟨hx,?_⟩
 exact AD (wpAny_isInstance (T:="str") (b:=true) rfl isSubtype_str_str (AJ h))
theorem PV {y:Str}(h:LF y=true):(reprText y).length≤12:=by
 unfold LF at h
 rcases e:y.cps.toList with _|⟨c,_|⟨d,l⟩⟩<;>rw[e] at h
 ·exact(AS h).elim
 ·
  have hc:c<1114112:=Bg h
  have h1:=StrLaws.reprText_len y (by rw[e];intro z hz;rw[Ac.mp hz];exact Fc hc (by decide))
  have h2:y.length=1:=by show y.cps.size=1;rw[←Da,e];rfl
  rw[h2] at h1;exact h1
 ·exact(AS h).elim
theorem ak (y:Str)(t u:Tok)(hy:(reprText y).length≤12):Meets (DI.«str.__mod__» ⟨[.str NT t,.str y u],[]⟩) (fun zz R s=>∀T t' k,R (.ok (.ret (.str T t'))) {s with toks:=k}):=by
 unfold NT
 apply Rk
 intro _ _ _ _ _ _ hq
 rw[KPc.entry_is_s]
 unfold DI.Str.percentFormat
 refine AD (wpAny_isInstance (Fh _ _ _) F.sub_str_tuple ?_)
 refine AD (Dh (a:=some _) rfl ?_)
 refine AD (KPc.wp_fills_str ?_)
 intro _
 k_dflt (kpc_if)
 k_dflt (refine AD (AJ ?_))
 k_dflt (refine AD ?_)
 rw[KPc.range_list]
 k_dflt (refine KPc.start ?_)
 intro _ _
 k_dflt (refine KPc.turn ?_;kpc_check;refine AJ ?_;kpc_piece)
 k_dflt (refine KPc.turn ?_;kpc_check;refine AD ?_;refine BA ?_)
 k_dflt (refine AD (J4 ?_ (AM hy (by rw[sizeLine_eq];lia))))
 k_dflt (refine AD (Dh (a:=some _) rfl ?_))
 k_dflt (refine AJ ?_;refine AJ ?_)
 k_dflt (refine KPc.after_str (K:=12) (by kpc_g) hy (by kpc_obj) ?_)
 intro _ _
 k_dflt (refine KPc.turn ?_;kpc_check;(repeat kpc_if);refine AJ ?_;kpc_if;refine LK (by kpc_g) (by decide+kernel) hq)
theorem SK {prog:C0}{w:World}{A:Around}{E:Value→Shared→Prop}{s:Shared}{y:Str}{t u:Tok}{Q:Value→Shared→Prop}(hy:LF y=true)
  (h:∀T t' k,Q (.str T t') {s with toks:=k}):wpAny (model prog w) A (Dy .Mod (.str UH t) (.str y u)) Q E s:=by
 rw[show UH=NT by decide+kernel]
 exact binaryOp_meets (T:="str") (op:=.Mod) (Fh s NT t) (Fh s y u) F.fills_str_mod F.slot_str_mod F.entry_str_mod (F.args_str_mod_2 _ _) (ak y t u (PV hy)) fun T t' k=>⟨(fun e=>nomatch e),h T t' k⟩
noncomputable def LJ:Str:=⟨#[101,120,112,101,99,116,101,100,32,101,115,99,97,112,101,32,115,101,113,117,101,110,99,101,32,111,102,32,37,100,32,104,101,120,97,100,101,99,105,109,97,108,32,110,117,109,98,101,114,115,44,32,98,117,116,32,102,111,117,110,100,32,37,114]⟩
theorem NG {t:Sem Fin}{b:Addr}{its:Array Value}
  (h:∀(prog:C0) (w:World) (A:Around) (s:Shared) (Q:Fin→Shared→Prop) (E:Value→Shared→Prop),IsTup s.heap b its→(∀T t' k,Q (.done (.ret (.str T t'))) {s with toks:=k})→wpAny (model prog w) A t Q E s):
  Meets t (fun zz R s=>IsTup s.heap b its∧∀T t' k,R (.ok (.ret (.str T t'))) {s with toks:=k}):=
 Meets.of_wp fun prog w A zz s hS=>h prog w A.in1 s _ _ hS.1 fun T t' k=>⟨_,rfl,hS.2 T t' k⟩
theorem aj (b:Addr)(i:Int)(y:Str)(t u v:Tok)(hi0:0≤i)(hi1:i<10 ^ 10)(hi2:i.natAbs.log2<1920)(hy:(reprText y).length≤12):Meets (DI.«str.__mod__» ⟨[.str LJ t,.ref b],[]⟩) (fun zz R s=>IsTup s.heap b #[.int i u,.str y v]∧∀T t' k,R (.ok (.ret (.str T t'))) {s with toks:=k}):=by
 unfold LJ
 apply NG
 intro _ _ _ _ _ _ kptH hq
 obtain⟨kptO,kptG,kptC,kptN,kptD⟩:=kptH
 rw[KPt.entry_is_r]
 unfold DI.Str.percentFormat
 refine AD (wpAny_isInstance (T:="tuple") ⟨kptO,kptG,kptC⟩ KPt.sub_tt ?_)
 refine AD (KPt.asStr_ref kptG kptD ?_)
 refine AD (KPt.fills_ref ⟨kptO,kptG,kptC⟩ ?_)
 intro _
 k_dflt (kpc_if)
 k_dflt (refine AD (wpAny_seqItems kptG kptD ?_))
 k_dflt (refine AD (AJ ?_))
 k_dflt (refine AD ?_)
 rw[KPc.range_list]
 k_dflt (refine KPc.start ?_)
 intro _ _
 k_dflt (refine KPc.turn ?_;kpc_check;refine AJ ?_;kpt_piece)
 k_dflt (refine KPc.turn ?_;kpc_check;refine AD ?_;refine BA ?_;kpt_conv;refine AJ ?_;refine AJ ?_;kpt_piece)
 k_dflt (refine KPc.turn ?_;kpc_check;refine AJ ?_;kpt_piece)
 k_dflt (refine KPc.turn ?_;kpc_check;refine AD ?_;refine BA ?_)
 k_dflt (refine AD (J4 ?_ (AM hy (by rw[sizeLine_eq];lia))))
 k_dflt (refine AD (Dh (a:=some _) rfl ?_))
 k_dflt (refine AJ ?_;refine AJ ?_)
 k_dflt (refine KPc.after_str (K:=12) (by kpc_g) hy (by kpc_obj) ?_)
 intro _ _
 k_dflt (refine KPc.turn ?_;kpc_check;(repeat kpc_if);refine AJ ?_;kpc_if;refine LK (by kpc_g) (by decide+kernel) hq)
theorem SJ {prog:C0}{w:World}{A:Around}{E:Value→Shared→Prop}{s:Shared}{y:Str}{t u v:Tok}{i:Int}{b L:Addr}{n:Nat}{h₀:Heap}{news:Ba}{Q:Value→Shared→Prop}(N:News h₀ L s.heap news)(hb:(b,HK [.int i u,.str y v] n)∈news)(hi:LE i=true)(hy:LF y=true)
  (h:∀T t' k,Q (.str T t') {s with toks:=k}):wpAny (model prog w) A (Dy .Mod (.str UG t) (.ref b)) Q E s:=by
 rw[show UG=LJ by decide+kernel]
 have ht:IsTup s.heap b #[.int i u,.str y v]:=N.isTup hb
 have hT:s.TypeIs (.ref b) "tuple":=by
  refine E2 (ht) fun o ho hc zz=>?_
  exact⟨o,ho,hc⟩
 have k:0≤i∧i<10 ^ 10∧i.natAbs.log2<1920:=by
  unfold LE at hi
  simp only[Du,decide_eq_true_eq] at hi
  rcases hi with(rfl|rfl)|rfl<;>decide+kernel
 exact KPt.bin_left (T:="str") (U:="tuple") (op:=.Mod) (by decide) (Fh s LJ t) hT F.fills_str_mod KPt.fills_tuple F.slot_str_mod
  (call_meets F.slot_str_mod (Fh s LJ t) F.entry_str_mod (F.args_str_mod_2 _ _) (aj b i y t u v k.1 k.2.1 k.2.2 (PV hy)) ⟨ht,fun T t' k=>⟨(fun e=>nomatch e),h T t' k⟩⟩)
theorem OE {u:V}(h:HO u=true):Lf u=none∧∀a,GX u a=false:=by
 rcases u with _|_<;>first|exact⟨rfl,fun zz=>rfl⟩|exact(AS h).elim
theorem XU {o:O}{v:V}(h:oC o=some v){G:Prop}(k:o= .cell v→G):G:=by
 rcases o with _|_<;>first|exact AU h|exact k (congrArg O.cell (AG h))
noncomputable abbrev CV (c:Cx)(k:Kn)(a:V)(v:Value):Prop:=Ag c.tp k a v
noncomputable abbrev CU (k:Kn)(a:Unit)(v:Unit):Prop:=True
noncomputable abbrev CB (k:Kn)(a:Bool)(v:Bool):Prop:=a=v
noncomputable abbrev Jg (k:Kn)(a:Bool)(v:Value):Prop:=v= .bool a
theorem BI.nil (k:Kn):BI ⟨[],[]⟩ k:=⟨fun zz zz h=>AU h,fun zz h=>nomatch h⟩
theorem Fp {a:V}{i:Int}{G:Prop}(h:DJ a=some i)(K:a= .int i→G):G:=by
 rcases a with _|_|_|⟨j⟩|_
 case int=>exact K (AG h▸rfl)
 all_goals exact AU h
theorem F3 {a:V}{i:Str}{G:Prop}(h:D7 a=some i)(K:a= .str i→G):G:=by
 rcases a with _|_|_|_|⟨j⟩|_
 case str=>exact K (AG h▸rfl)
 all_goals exact AU h
theorem Qe {a:V}{i:Bool}{G:Prop}(h:Pk a=some i)(K:a= .bool i→G):G:=by
 rcases a with _|_|⟨j⟩|_
 case bool=>exact K (AG h▸rfl)
 all_goals exact AU h
theorem Fo {a:V}{i:Nat}{G:Prop}(h:GS a=some i)(K:a= .obj i→G):G:=by
 rcases a with _|_|_|_|_|_|_|_|⟨j⟩|_
 case obj=>exact K (AG h▸rfl)
 all_goals exact AU h
theorem KD {a:V}{i:List V}{G:Prop}(h:Ld a=some i)(K:a= .tup i→G):G:=by
 rcases a with _|_|_|_|_|_|⟨j⟩|_
 case tup=>exact K (AG h▸rfl)
 all_goals exact AU h
theorem LD {a:V}{G:Prop}(h:IR a=true)(K:a= .none→G):G:=by
 rcases a with _|_
 case none=>exact K rfl
 all_goals exact(AS h).elim
theorem Tn {o:O}{xs:List V}{G:Prop}(h:oL o=some xs)(K:o= .list xs→G):G:=by
 rcases o with _|⟨j⟩|_
 case list=>exact K (AG h▸rfl)
 all_goals exact AU h
theorem au {o:O}{xs:List (V×V)}{G:Prop}(h:oD o=some xs)(K:o= .dict xs→G):G:=by
 rcases o with _|_|⟨j⟩|_
 case dict=>exact K (AG h▸rfl)
 all_goals exact AU h
theorem XT {o:O}{xs:List (V×V)}{G:Prop}(h:oF o=some xs)(K:o= .fro xs→G):G:=by
 rcases o with _|_|_|⟨j⟩|_
 case fro=>exact K (AG h▸rfl)
 all_goals exact AU h
theorem To {o:O}{p:Nat×List (Str×V)}{G:Prop}(h:oI o=some p)(K:o= .inst p.1 p.2→G):G:=by
 rcases o with⟨j,fs⟩|_
 case inst=>exact K (AG h▸rfl)
 all_goals exact AU h
section
variable {α β:Type}{c:Cx}{k:Kn}{C:Kn→α→β→Prop}
theorem AY.int {T:Value→Sem β}{g:Int→M α}{a:V}{x:Value}(ha:Ag c.tp k a x)(h:∀i t,AY c k C (T (.int i t)) (g i)):AY c k C (T x) ((B2 (DJ a)).bind g):=
 .look fun i e=>Fp e fun q=>by subst q;exact AA (show ∃t,x= .int i t from ha) fun t q=>q▸h i t
theorem AY.str {T:Value→Sem β}{g:Str→M α}{a:V}{x:Value}(ha:Ag c.tp k a x)(h:∀i t,AY c k C (T (.str i t)) (g i)):AY c k C (T x) ((B2 (D7 a)).bind g):=
 .look fun i e=>F3 e fun q=>by subst q;exact AA (show ∃t,x= .str i t from ha) fun t q=>q▸h i t
theorem AY.intOr {T:Value→Sem β}{g:Int→M α}{m:M α}{a:V}{x:Value}(ha:Ag c.tp k a x)(h:∀i t,AY c k C (T (.int i t)) (g i))(h':AY c k C (T x) m):AY c k C (T x) (match DJ a with|some i=>g i|none=>m):=by
 rcases e:DJ a with _|i
 ·exact h'
 ·exact Fp e fun q=>by subst q;exact AA (show ∃t,x= .int i t from ha) fun t q=>q▸h i t
theorem AY.strOr {T:Value→Sem β}{g:Str→M α}{m:M α}{a:V}{x:Value}(ha:Ag c.tp k a x)(h:∀i t,AY c k C (T (.str i t)) (g i))(h':AY c k C (T x) m):AY c k C (T x) (match D7 a with|some i=>g i|none=>m):=by
 rcases e:D7 a with _|i
 ·exact h'
 ·exact F3 e fun q=>by subst q;exact AA (show ∃t,x= .str i t from ha) fun t q=>q▸h i t
end
section
variable {c:Cx}{k:Kn}
theorem Iv {θ:Tp}{k:Kn}{a:V}{v:Value}(h:Ag θ k a v):Lf a=none:=by rcases a with _|_<;>first|rfl|exact False.elim h
theorem KZ (G:Good c){st:St}{s:Shared}{x:Str}{K:V→St→Ay}{X:V→St→Ay}{o:Except V V×List O}{Q:Value→Shared→Prop}{E:Value→Shared→Prop}(R:Al c.fm k st s.heap)(P:Y c.l o (E3 x st K X))(HQ:∀a b,Ag c.tp k a b→Y c.l o (K a st)→Q b s):(x==("__debug__":Str))=false∧wpAny c.M c.A (loadName c.env x) Q E s:=by
 refine Bh P fun a e P=>⟨(R.loc x a e).1,(R.loc x a e).2.elim (fun h=>?_) fun h=>h.elim (fun h=>?_) fun h=>?_⟩
 ·rw[h.2.1] at P
  refine Bh P fun b e1 P=>LV e1 fun u e1=>?_
  subst e1
  exact h.2.2.elim (fun z=>(u z).elim) fun z=>AR z fun v hv hc=>wpAny_loadName_local G.kind h.1 R.F.ns hv (HQ _ _ hc P)
 ·have e1:Lf a=none:=(OE h.2.2).1
  rw[e1] at P
  refine Bh P fun b e1 P=>LV e1 fun u e1=>?_
  subst e1
  rw[loadName_read G.kind h.1]
  refine AR (G.top.globs x a h.2.1) fun v hc hn=>?_
  have fin:Q v s:=HQ _ _ (hc.mono (BI.nil k)) P
  have g:=G.g.keeps R.F.keep
  rw[←G.gl] at g
  exact hn.elim (fun hn=>loadGlobal_global g (mg_of G.X G.g hn) fin) fun hn=>loadGlobal_builtin g (mg_none_of G.X G.g hn.1) (by rw[G.bi];exact G.b.keeps R.F.keep) ((G.top.T.builtins x hn.2.2).trans hn.2.1) fin
 ·refine h.2.elim fun i z=>z.elim fun q z=>E2 z fun dz e1 e2 e3=>?_
  subst e1
  refine Gc P fun ob e4 P1=>Bh P1 fun b' e5 P2=>Bh P2 fun b u P3=>LV u fun u' g3=>?_
  subst g3
  refine XU e5 fun eo=>?_
  subst eo
  refine R.turn e4 rfl (v:=.ref q) ⟨(q,dz),e3,rfl⟩ fun d hd a ob p1 p2 T=>?_
  rw[←show a=q from T.body.2.1.trans (GH T.hv).symm] at e2
  exact AR T.body.2.2 fun ov e6 hc=>hc.elim (fun z=>(u' z).elim) fun hc=>AR hc fun v e7 hc=>wpAny_loadName_cell G.kind h.1 e2 ⟨_,T.row.1,e6.trans (congrArg _ e7)⟩ (HQ _ _ hc P3)
theorem MD (G:Good c){st:St}{s:Shared}{x:Str}{K:V→St→Ay}{X:V→St→Ay}{o:Except V V×List O}{Q:Value→Shared→Prop}{E:Value→Shared→Prop}(R:Al c.fm k st s.heap)(P:Y c.l o (E3 x st K X))(HQ:FV c (CV c) k s K o Q):(x==("__debug__":Str))=false∧wpAny c.M c.A (loadName c.env x) Q E s:=
 KZ G R P fun a b hc P=>HQ.now s.toks R hc P
theorem AY.load (G:Good c){x:Str}:AY c k (CV c) (loadName c.env x) (E3 x):=fun k' st s K X o Q E l R P HQ HE=>(MD G R P HQ).2
theorem AY.name (G:Good c){x:Str}{pos:Pos}:AY c k (CV c) (eval (.Name x pos) c.env) (E3 x):=fun k' st s K X o Q E l R P HQ HE=>wpAny_Name (MD G R P HQ).2 (MD (E:=E) G R P HQ).1
theorem AY.const {q:Const}{n:Nat}{pos:Pos}:AY c k (CV c) (eval (.Constant q n pos) c.env) (B2 (Hw q)):=by
 rcases q with _|_|⟨b⟩|⟨i⟩|⟨t⟩|_
 case none=>exact .still fun zz s zz zz zz h=>wpAny_Constant_none (h s.toks _ rfl)
 case bool=>exact .still fun zz s zz zz zz h=>wpAny_Constant_bool (h s.toks _ rfl)
 case int=>exact .still fun zz zz zz zz zz h=>wpAny_Constant_int (h _ _ ⟨_,rfl⟩)
 case str=>exact .still fun zz zz zz zz zz h=>wpAny_Constant_str (h _ _ ⟨_,rfl⟩)
 all_goals exact .last fun x e=>AU e
theorem PS (x y:Str)(v:V)(l:List (Str×V)):Co y (Kp x v l)=if y=x then(Co x l).map fun zz=>v else Co y l:=by
 induction l with
 |nil=>exact(ite_self _).symm
 |cons p l ih=>
  rw[Yx]
  by_cases h:x=p.1
  ·rw[if_pos h,GC,GC,GC,if_pos h,←h]
   by_cases q:y=x
   ·rw[if_pos q,if_pos q];rfl
   ·rw[if_neg q,if_neg q,if_neg q]
  ·rw[if_neg h,GC,GC,GC,if_neg h,ih]
   by_cases q:y=x
   ·rw[if_neg (q▸h),if_pos q,if_pos q]
   ·rw[if_neg q,if_neg q]
theorem AY.store (G:Good c){x:Str}{a:V}{v:Value}(hv:Ag c.tp k a v):AY c k CU (storeName c.env x v) (FB x a):=by
 intro k₁ st s K X o Q E l R P HQ HE
 refine Bh P fun u e P=>?_
 refine(R.loc x u e).2.elim (fun h=>?_) fun h=>h.elim (fun h=>?_) fun h=>?_
 ·rw[h.2.1] at P
  rcases hs:GX u a with _|_
  ·rw[hs] at P;exact P.elim
  rw[hs] at P
  refine wpAny_storeName_local h.1 R.F.ns (fun h' hn hsb=>HQ k₁ () () ⟨Kp x a st.loc,st.heap⟩ h' _ (.refl _) ⟨_,R.MO,R.F.set hn hsb,R.N.set hsb,R.nd,fun y b hb=>?_,R.heap⟩ trivial P) (by show(c.env.scope.kind== .class||(c.env.scope.kind== .module&&c.env.locals != c.env.globals))=false;rw[G.kind];rfl)
  rw[PS] at hb
  by_cases q:y=x
  ·rw[if_pos q,e] at hb
   exact⟨q▸(R.loc x u e).1,.inl ⟨q▸h.1,E1 hb fun z=>z▸Iv hv,.inr ⟨v,if_pos q,E1 hb fun z=>z▸hv.mono l⟩⟩⟩
  ·rw[if_neg q] at hb
   exact⟨(R.loc y b hb).1,(R.loc y b hb).2.imp (fun z=>⟨z.1,z.2.1,z.2.2.imp id (Ae fun w z=>⟨(if_neg q).trans z.1,z.2⟩)⟩) id⟩
 ·have e1:Lf u=none∧HO u=true:=⟨(OE h.2.2).1,h.2.2⟩
  have e2:GX u a=false:=(OE h.2.2).2 a
  rw[e1.1,e2] at P
  exact P.elim
 ·refine h.2.elim fun i z=>z.elim fun q z=>E2 z fun dz e1 e2 e3=>?_
  subst e1
  refine Gc P fun ob e4 P1=>Bh P1 fun b e5 P2=>?_
  refine XU e5 fun eo=>?_
  subst eo
  refine R.turn e4 rfl (v:=.ref q) ⟨(q,dz),e3,rfl⟩ fun d hd a ob p1 p2 T=>?_
  rw[←show a=q from T.body.2.1.trans (GH T.hv).symm] at e2
  exact AR T.body.2.2 fun ov e6 zz=>wpAny_storeName_cell G.kind h.1 e2 ⟨_,T.row.1,e6⟩ fun h' hv'' hsb=>AR hv'' fun ob' e7 e8=>HQ k₁ () () _ h' _ (.refl _) (T.but (o':=.cell _) hsb e7 ⟨T.body.1,T.body.2.1,_,e8,.inr ⟨v,rfl,hv.mono l⟩⟩) trivial P2
theorem AY.bindName (G:Good c){x:Str}{a:V}{v:Value}(hv:Ag c.tp k a v):AY c k CU (bindName c.env x v) (FB x a):=
 fun k₁ st s K X o Q E l R P HQ HE=>wpAny_bindName (AY.store G hv k₁ st s K X o Q E l R P HQ HE)
theorem Al.list {st:St}{h:Heap}(R:Al c.fm k st h){i:Nat}{ob:O}{xs:List V}(e:st.heap[i]? =some ob)(ho:oL ob=some xs){v:Value}(hv:Ag c.tp k (.obj i) v){G:Prop}
  (K:∀a vs n,v= .ref a→(a,listOf (AE vs) n)∈R.MO++(c.J++k.I)→Ap c.tp k xs vs→h.IsList a vs.toArray→G):G:=by
 refine Tn ho fun ho=>?_
 subst ho
 refine R.turn e rfl hv fun d hd a ob p1 p2 T=>Dm T.body.2.2 fun vs n h1 h2=>?_
 have m:(d.1,listOf (AE vs) n)∈R.MO++(c.J++k.I):=by rw[←T.body.2.1,←h1];exact T.at
 exact K d.1 vs n T.hv m h2 ⟨_,(R.N _ m).1,rfl,_,rfl⟩
theorem Gr {T:Value→Value→Sem Value}{g:Int→Int→M V}{a b:V}{x y:Value}(ha:Ag c.tp k a x)(hb:Ag c.tp k b y)(h:∀i t j u,AY c k (CV c) (T (.int i t) (.int j u)) (g i j)):AY c k (CV c) (T x y) (JC a b g):=
 .int (T:=fun x=>T x y) ha fun i t=>.int (T:=fun y=>T (.int i t) y) hb fun j u=>h i t j u
theorem W7 {op:Operator}{a b:V}{x y:Value}(ha:Ag c.tp k a x)(hb:Ag c.tp k b y):AY c k (CV c) (Dy op x y) (Uf op a b):=by
 rcases op with _|_
 case Add=>
  show AY c k (CV c) _ (Uh a b)
  unfold Uh
  refine .intOr (T:=fun x=>Dy .Add x y) ha (fun i t=>.int (T:=fun y=>Dy .Add (.int i t) y) hb fun j u=>.still fun zz zz zz zz zz h=>add_int (h _ _ ⟨_,rfl⟩)) ?_
  refine .strOr (T:=fun x=>Dy .Add x y) ha (fun i t=>.str (T:=fun y=>Dy .Add (.str i t) y) hb fun j u=>.size fun hl=>.still fun zz zz zz zz zz h=>add_str (fun zz zz=>h _ _ ⟨_,rfl⟩) (AM hl Cv)) ?_
  refine .look fun i ea=>Fo ea fun q=>.look fun j eb=>Fo eb fun q'=>?_
  subst q q'
  refine .rd fun k' st s K X o Q E ob xs l R e hp P HQ HE=>JH P fun ob₂ ys e2 hp2 P=>Ef P fun hl P=>R.list e hp (ha.mono l) fun p vs n q zz hs hL=>R.list e2 hp2 (hb.mono l) fun p2 ws m q2 zz hs2 hL2=>?_
  subst q q2
  exact add_lists R.F R.N hL hL2 (fun h' F' N'=>HQ _ (.obj st.heap.length) _ ⟨st.loc,st.heap++[O.list (xs++ys)]⟩ h' s.toks (BI.app _) (R.pushList (hs2.append hs) F' N' fun p hp=>B4 (R.N p hp).1) (R.newAt _) P) (by rw[←hs.length,←hs2.length];exact AM hl Cv)
 case Sub=>exact Gr (T:=Dy .Sub) ha hb fun i t j u=>.still fun zz zz zz zz zz h=>sub_int (h _ _ ⟨_,rfl⟩)
 case FloorDiv=>exact Gr (T:=Dy .FloorDiv) ha hb fun i t j u=>.guardD fun hl=>.still fun zz zz zz zz zz h=>floordiv_int hl.1 (h _ _ ⟨_,rfl⟩) (.inl (PyProof.noPylong_small hl.2))
 case Mod=>
  refine .strOr (T:=fun x=>Dy .Mod x y) (g:=fun f=>UF f b) (m:=JC a b fun x y=>req (decide (y≠0)) (.pure (.int (x.fmod y)))) ha (fun f t=>?_) (Gr (T:=Dy .Mod) ha hb fun i t j u=>.guardD fun hl=>.still fun zz zz zz zz zz h=>mod_int' hl (h _ _ ⟨_,rfl⟩))
  unfold UF
  refine .strOr (T:=fun y=>Dy .Mod (.str f t) y) hb (fun i u=>.chk fun h=>?_) (.guard fun h=>?_)
  ·have h1:=of_decide_eq_true h
   subst h1
   exact .req fun h2=>.still fun zz zz zz zz zz hq=>SK h2 fun T t' k=>hq k _ ⟨T,t',rfl⟩
  ·subst h
   rcases b with _|_|_|_|_|_|⟨xs⟩|_
   case tup=>
    rcases xs with _|⟨x1,xs⟩
    ·exact .stuck
    ·rcases x1 with _|_|_|⟨n⟩|_
     case int=>
      rcases xs with _|⟨x2,xs⟩
      ·exact .stuck
      ·rcases x2 with _|_|_|_|⟨x⟩|_
       case str=>
        rcases xs with _|_
        ·show AY c k (CV c) _ (req (LE n&&LF x) (.pure .txt))
         refine .req fun h=>?_
         have h:=AP.mp h
         refine fun k₁ st s K X o Q E l R P HQ HE=>HC (hb.mono l) fun p m vs h1 h2 h3=>?_
         refine BJ h2 fun v us e1 e2 e3=>BJ e2 fun v' us' e4 e5 e6=>?_
         cases (show us'=[] from e5)
         subst h3 e3 e6
         exact AA e1 fun t1 e1=>AA e4 fun t2 e4=>by
          subst e1 e4
          exact SJ R.N (R.inI h1) h.1 h.2 fun T t' k=>HQ k₁ .txt _ st s.heap k (.refl _) R ⟨T,t',rfl⟩ P
        ·exact .stuck
       all_goals exact .stuck
     all_goals exact .stuck
   all_goals exact .stuck
 case Mult=>exact Gr (T:=Dy .Mult) ha hb fun i t j u=>.guardD fun hl=>.still fun zz zz zz zz zz h=>mul_int (h _ _ ⟨_,rfl⟩) (.of_left (intBits_le_64 (by have:=hl.1;lia) (by have:=hl.1;lia)))
 all_goals exact .stuck
theorem PC {op:Operator}{a b:V}{x y:Value}(ha:Ag c.tp k a x)(hb:Ag c.tp k b y):AY c k (CV c) (inplaceOp op x y) (Oj op a b):=by
 rcases op with _|_
 case Add=>exact Gr (T:=inplaceOp .Add) ha hb fun i t j u=>.still fun zz zz zz zz zz h=>iadd_int (h _ _ ⟨_,rfl⟩)
 case Sub=>exact Gr (T:=inplaceOp .Sub) ha hb fun i t j u=>.still fun zz zz zz zz zz h=>isub_int (h _ _ ⟨_,rfl⟩)
 all_goals exact .stuck
structure Gg (θ:Tp):Prop where
 list:∀n xs,θ.S.sta n= .list xs→∃vs,Ap θ ⟨[],[]⟩ xs vs∧θ.base.IsList (θ.as n) vs.toArray
 dict:∀n es,θ.S.sta n= .dict es→∃kvs,Kv V.str θ ⟨[],[]⟩ es kvs∧θ.base.DictOf (Db θ.prog θ.w) (θ.as n) kvs∧(θ.as n==Cp)=false∧es.isEmpty=false
 sdict:∀n es,θ.S.sta n= .sdict es→False
theorem JG (G:Good c)(SO:Gg c.tp){a:V}{v:Value}(ha:Ag c.tp k a v):AY c k CB (truthy v) (IN c.S a):=by
 rcases a with _|_|⟨b⟩|⟨i⟩|⟨s⟩|_|_|_|⟨i⟩|_|_|⟨n⟩|_
 case none=>cases (show v= .none from ha);exact .still fun zz s zz zz zz h=>fun zz zz zz=>h s.toks _ rfl
 case bool=>cases (show v= .bool b from ha);exact .still fun zz s zz zz zz h=>G0 (h s.toks _ rfl)
 case int=>
  refine AA (show ∃t,v= .int i t from ha) fun t q=>?_
  subst q
  refine .still fun zz s zz zz zz h=>truthy_int (h s.toks _ ?_)
  simp only[CB,ne_eq,bne,decide_not]
  rfl
 case str=>
  refine AA (show ∃t,v= .str s t from ha) fun t q=>?_
  subst q
  refine .size fun hl=>.still fun zz zz zz zz zz h=>P.truthy_str (fun hq=>?_) (h _ _ ?_)
  ·have hq:(2 ^ 63:Nat)≤s.cps.size:=Int.ofNat_le.mp hq
   exact absurd (AM hq hl) (by unfold lim;decide)
  ·show decide (s.cps.size≠0)=((s.cps.size:Int) != 0)
   rw[show((s.cps.size:Int) != 0)=(s.cps.size != 0) from by rw[Bool.eq_iff_iff,bne_iff_ne,bne_iff_ne];exact not_congr Int.natCast_eq_zero]
   exact(Bool.eq_iff_iff.mpr (by rw[decide_eq_true_iff,bne_iff_ne]))
 case obj=>
  refine .rd fun k' st s K X o Q E ob xs l R e hx P HQ HE=>Ef P fun hl P=>R.list e hx (ha.mono l) fun a vs n q zz hs hL=>?_
  subst q
  refine wpAny_truthy_list hL (by have hl:xs.length≤1000000:=hl;rw[Au,←hs.length];lia) (HQ.now _ R ?_ P)
  have:=hs.length
  show decide (xs.length≠0)= !vs.toArray.isEmpty
  rw[this]
  rcases vs with _|_<;>rfl
 case sta=>
  refine .look fun xs e=>.size fun hl=>fun k₁ st s K X o Q E l R P HQ HE=>Tn e fun e=>?_
  refine AR (SO.list n xs e) fun vs h1 h2=>?_
  rw[show v= .ref _ from ha]
  have h2:s.heap.IsList (c.as n) vs.toArray:=Ae (fun o z=>⟨R.F.keep _ _ (G.stays _ _ z.1),z.2⟩) h2
  have hq:=h1.length
  refine wpAny_truthy_list h2 (by have hl:xs.length≤1000000:=hl;rw[Au,←hq];lia) (HQ.now _ R ?_ P)
  show decide (xs.length≠0)= !vs.toArray.isEmpty
  rw[hq]
  rcases vs with _|_<;>rfl
 all_goals exact .stuck
theorem XA (G:Good c)(SO:Gg c.tp){op:UnaryOp}{a:V}{v:Value}(ha:Ag c.tp k a v):AY c k (CV c) (unaryOp op v) (Wu c.S op a):=by
 rcases op with _|_
 case USub=>exact .int (T:=unaryOp .USub) ha fun i t=>.still fun zz zz zz zz zz h=>neg_int (h _ _ ⟨_,rfl⟩)
 case Not=>exact fun k₁ st s K X o Q E l R P HQ HE=>not_value (JG G SO (ha.mono l) k₁ st s _ X o _ E (.refl _) R P (fun k' p q st' h' tk l' R' hb P'=>HQ k' _ _ st' h' tk l' R' (by rw[show p=q from hb];exact rfl) P') HE)
 all_goals exact .stuck
end
section
open PySem.SeqAt
noncomputable def Iy (c:Cx)(k:Kn)(h:Heap)(ob:O)(y:Value):Prop:=∃a,y= .ref a∧match ob with
 | .list xs=>∃vs,Ap c.tp k xs vs∧h.IsList a vs.toArray
 | .dict es=>(a==Cp)=false∧((∃kvs,Kv V.int c.tp k es kvs∧h.DictOf (Dp c.prog c.w) a kvs)∨(es.isEmpty=false∧∃kvs,Kv V.str c.tp k es kvs∧h.DictOf (Db c.prog c.w) a kvs))
 | .sdict es=>(a==Cp)=false∧es.isEmpty=false∧∃kvs,Kv V.str c.tp k es kvs∧h.DictOf (Db c.prog c.w) a kvs
 |_=>True
section
variable {c:Cx}{k:Kn}
theorem Iy.dict {h:Heap}{es:List (V×V)}{y:Value}(S:Iy c k h (.sdict es) y):Iy c k h (.dict es) y:=Ae (fun zz h=>⟨h.1,h.2.1,.inr h.2.2⟩) S
theorem Al.seen {st:St}{h:Heap}(R:Al c.fm k st h){i:Nat}{ob:O}(e:st.heap[i]? =some ob){y:Value}(hv:Ag c.tp k (.obj i) y):Iy c k h (Nl ob) y:=by
 rcases ob with _|⟨xs⟩|⟨es⟩|⟨es⟩|_|⟨es⟩|_
 case list=>exact R.list e rfl hv fun a vs n q zz hs hL=>⟨a,q,vs,hs,hL⟩
 case dict=>exact R.turn e rfl hv fun d hd a ob p1 p2 T=>⟨d.1,T.hv,T.body.2.2.1,.inl (AR T.body.2.2.2 fun kvs h1 h2=>⟨kvs,h2,Dt.mpr ⟨ob,T.body.2.1▸T.row.1,h1⟩⟩)⟩
 case fro=>
  refine AR hv fun d hd hv=>D6 (R.heap.split e) fun d' p1 L p2 e1 zz e3 zz=>?_
  refine BJ e3.2 fun d₁ ob e4 e5 e6=>?_
  cases AG ((AG (hd.symm.trans e1)).trans e4)
  exact⟨d.1,hv,e6.2.2.1,.inl (AR e6.2.2.2 fun kvs h1 h2=>⟨kvs,h2,Dt.mpr ⟨ob,(R.N (d.1,ob) (AX _ (B3 _ e5))).1,h1⟩⟩)⟩
 case sdict=>exact R.turn e rfl hv fun d hd a ob p1 p2 T=>⟨d.1,T.hv,T.body.2.2.1.1,T.body.2.2.1.2,AR T.body.2.2.2 fun kvs h1 h2=>⟨kvs,h2,Dt.mpr ⟨ob,T.body.2.1▸T.row.1,h1⟩⟩⟩
 all_goals exact AR hv fun d zz hv=>⟨d.1,hv,trivial⟩
theorem AY.obj {α β:Type}{C:Kn→α→β→Prop}{t:Sem β}{b:V}{y:Value}{g:O→M α}(G:Good c)(SO:Gg c.tp)(hb:Ag c.tp k b y)
  (h:∀k' st s K X o Q E ob,BI k k'→Al c.fm k' st s.heap→Iy c k' s.heap ob y→Y c.l o (g ob st K X)→FV c C k' s K o Q→Fy c k' s X o E→wpAny c.M c.A t Q E s):AY c k C t ((O5 c.S b).bind g):=by
 rcases b with _|_|_|_|_|_|_|_|⟨i⟩|_|_|⟨n⟩|_
 case obj=>exact fun k₁ st s K X o Q E l R P HQ HE=>Gc P fun ob' e1 P=>Bh P fun ob e2 P=>h k₁ st s K X o Q E (Nl ob) l R (R.seen (AG e2▸e1) (hb.mono l)) P HQ HE
 case sta=>
  refine fun k₁ st s K X o Q E l R P HQ HE=>h k₁ st s K X o Q E (c.S.sta n) l R ⟨_,hb,?_⟩ P HQ HE
  have keep:∀b o,c.base.get? b=some o→s.heap.get? b=some o:=fun b o e=>R.F.keep b o (G.stays b o e)
  rcases e:c.S.sta n with _|⟨xs⟩|⟨es⟩|_|_|⟨es⟩|_
  case list=>exact AR (SO.list n xs e) fun vs h1 h2=>⟨vs,h1.mono (BI.nil _),Ae (fun o z=>⟨keep _ _ z.1,z.2⟩) h2⟩
  case dict=>exact E2 (SO.dict n es e) fun kvs h1 h2 h3=>⟨h3.1,.inr ⟨h3.2,kvs,h1.mono (BI.nil _),h2.keep keep⟩⟩
  case sdict=>exact(SO.sdict n es e).elim
  all_goals trivial
 all_goals exact fun zz zz zz zz zz zz zz zz zz zz P=>P.elim
end
theorem Jj (a b:Str):(a==b)=decide (a=b):=by
 by_cases h:a=b
 ·rw[decide_eq_true h,beq_iff_eq];exact h
 ·rw[decide_eq_false h,beq_eq_false_iff_ne];exact h
section
variable {θ:Tp}{k:Kn}
theorem Ur {a b:V}{x y:Value}{r:Bool}{P:Value→Value→Bool→Prop}(e:Lq a b=some r)(ha:Ag θ k a x)(hb:Ag θ k b y)(h1:∀i t j u,P (.int i t) (.int j u) (decide (i=j)))(h2:∀i t j u,P (.str i t) (.str j u) (decide (i=j)))(h3:∀j u,P .none (.int j u) false):P x y r:=by
 rcases a with _|_|_|⟨i⟩|⟨i⟩|_
 case int=>exact AR (Ar.mp e) fun j e1 e2=>Fp e1 fun q=>by subst q;exact AA (show ∃t,x= .int i t from ha) fun t q=>AA (show ∃t,y= .int j t from hb) fun u z=>q▸z▸e2▸h1 i t j u
 case str=>exact AR (Ar.mp e) fun j e1 e2=>F3 e1 fun q=>by subst q;exact AA (show ∃t,x= .str i t from ha) fun t q=>AA (show ∃t,y= .str j t from hb) fun u z=>q▸z▸e2▸h2 i t j u
 case none=>exact AR (Ar.mp e) fun j e1 e2=>Fp e1 fun q=>by subst q;exact AA (show ∃t,y= .int j t from hb) fun u z=>(show x= .none from ha)▸z▸e2▸h3 j u
 all_goals exact AU e
theorem Pl {K:Type}[DecidableEq K]{as:V→Option K}{i:K}{A:Around}{s:Shared}{y:Value}(f:Value→Bool)(H:∀x v j,as x=some j→Ag θ k x v→f v=decide (j=i)∧EqAt A s v y (decide (j=i))){xs:List V}:∀{vs:List Value} {r:Bool},Ap θ k xs vs→MT as i xs=some r→
  vs.any f=r∧∀z∈vs,EqAt A s z y (f z):=by
 induction xs with
 |nil=>exact fun h e=>by rw[show _=[] from h];exact⟨AG e,fun zz h=>nomatch h⟩
 |cons x xs ih=>
  intro vs r h e
  refine BJ h fun v us h1 h2 e1=>AR (Af.mp e) fun j e2 e3=>AR (Ar.mp e3) fun b e4 e5=>?_
  subst e1 e5
  have hd:=H x v j e2 h1
  exact⟨by rw[List.any_cons,hd.1,(ih h2 e4).1],fun z hz=>(AZ.mp hz).elim (fun q=>by rw[q,hd.1];exact hd.2) ((ih h2 e4).2 z)⟩
set_option backward.match.sparseCases false in
noncomputable def c4 (i:Int):Value→Bool
 | .int j _=>decide (j=i)
 |_=>false
set_option backward.match.sparseCases false in
noncomputable def c3 (i:Str):Value→Bool
 | .str j _=>decide (j=i)
 |_=>false
theorem Yd {a:V}{x:Value}(ha:Ag θ k a x){xs:List V}{vs:List Value}{r:Bool}(A:Around)(s:Shared)(h:Ap θ k xs vs)(e:Hx a xs=some r):∃f,vs.any f=r∧∀z∈vs,EqAt A s z x (f z):=by
 unfold Hx at e
 rcases ei:DJ a with _|i
 ·
  rw[ei] at e
  refine AR (Af.mp e) fun i e1 e=>F3 e1 fun q=>?_
  subst q
  refine AA (show ∃t,x= .str i t from ha) fun u q=>⟨_,Pl (c3 i) (fun x v j e1 hv=>F3 e1 fun q=>?_) h e⟩
  subst q
  exact AA (show ∃t,v= .str j t from hv) fun t q=>by rw[q];exact⟨rfl,by subst_vars;rw[←Jj];exact EqAt.str_str j t i u⟩
 ·
  rw[ei] at e
  refine Fp ei fun q=>?_
  subst q
  refine AA (show ∃t,x= .int i t from ha) fun u q=>⟨_,Pl (c4 i) (fun x v j e1 hv=>Fp e1 fun q=>?_) h e⟩
  subst q
  exact AA (show ∃t,v= .int j t from hv) fun t q=>by rw[q];exact⟨rfl,by subst_vars;exact EqAt.int_int j t i u⟩
noncomputable def aX (θ:Tp)(k:Kn)(o:Option Value):Option V→Prop
 |some x=>∃v,o=some v∧Ag θ k x v
 |none=>o=none
theorem PR {K:Type}[DecidableEq K]{f:K→V}{as:V→Option K}(hf:∀i,as (f i)=some i){i:K}{es:List (V×V)}:∀{kvs:List (K×Value)} {q:Option V},Kv f θ k es kvs→EK as i es=some q→aX θ k (valueAt kvs i) q:=by
 induction es with
 |nil=>exact fun h e=>by rw[show _=[] from h,←AG e];exact rfl
 |cons p es ih=>
  intro kvs q h e
  refine Em h fun j v us h1 h2 h3 h4=>?_
  subst h4
  rw[Jx,h1,hf] at e
  have e:(if j=i then some (some p.2) else EK as i es)=some q:=e
  unfold valueAt
  by_cases z:j=i
  ·rw[if_pos z] at e
   rw[←AG e,List.find?_cons_of_pos (by simpa using z)]
   exact⟨v,rfl,h2⟩
  ·rw[if_neg z] at e
   rw[List.find?_cons_of_neg (by simpa using z)]
   exact ih h3 e
theorem Rn {c:Cx}{h:Heap}{y:Value}{es:List (V×V)}{a:V}{x:Value}{q:Option V}(S:Iy c k h (.dict es) y)(ha:Ag c.tp k a x)(e:CW a es=some q){G:Prop}
  (H:∀{K:Type} [DecidableEq K] (knd:KeyKind c.prog c.w K) (d:Addr) (f:K→Option Value) (i:K),y= .ref d→(d==Cp)=false→knd.is i x=true→h.MapOf knd d f→aX c.tp k (f i) q→G):G:=by
 refine AR S fun d hd S=>?_
 have S:(d==Cp)=false∧((∃kvs,Kv V.int c.tp k es kvs∧h.DictOf (Dp c.prog c.w) d kvs)∨(es.isEmpty=false∧∃kvs,Kv V.str c.tp k es kvs∧h.DictOf (Db c.prog c.w) d kvs)):=S
 unfold CW at e
 rcases ei:DJ a with _|i
 ·
  rw[ei] at e
  refine AR (Af.mp e) fun i e1 e=>F3 e1 fun q=>?_
  subst q
  refine AA (show ∃t,x= .str i t from ha) fun u q=>?_
  rcases es with _|⟨p,es⟩
  ·exact AU e
  ·exact S.2.elim (fun z=>AR z fun kvs h1 h2=>Em h1 fun j v us h1 zz zz zz=>by
    have e:EK D7 i (p::es)=_:=e
    rw[Jx,h1] at e;exact AU e) fun z=>AR z.2 fun kvs h1 h2=>H (Db c.prog c.w) d _ i hd S.1 (q▸strKind_is ..) h2.mapOf (PR (f:=V.str) (fun zz=>rfl) h1 e)
 ·
  rw[ei] at e
  refine Fp ei fun q=>?_
  subst q
  refine AA (show ∃t,x= .int i t from ha) fun u q=>?_
  refine S.2.elim (fun z=>AR z fun kvs h1 h2=>H (Dp c.prog c.w) d _ i hd S.1 (q▸intKind_is ..) h2.mapOf (PR (f:=V.int) (fun zz=>rfl) h1 e)) fun z=>AR z.2 fun kvs h1 h2=>?_
  rcases es with _|⟨p,es⟩
  ·exact(AS z.1.symm).elim
  ·exact Em h1 fun j v us h1 zz zz zz=>by
    have e:EK DJ i (p::es)=_:=e
    rw[Jx,h1] at e;exact AU e
end
section
variable {c:Cx}{k:Kn}
theorem RG (G:Good c)(SO:Gg c.tp){a b:V}{x y:Value}(ha:Ag c.tp k a x)(hb:Ag c.tp k b y){T:Value→Value→Sem Value}{ng:Bool→Bool}
  (hS:∀{A:Around} {Q:Value→Shared→Prop} {E:Value→Shared→Prop} {s:Shared} (u v:Str) (t w:Tok),Q (.bool (ng (BL u v))) s→wpAny c.M A (T (.str v t) (.str u w)) Q E s)
  (hL:∀{A:Around} {Q:Value→Shared→Prop} {E:Value→Shared→Prop} {s:Shared} {l:Addr} {items:Array Value} {x:Value} (e:Value→Bool),s.heap.IsList l items→(∀y,y∈items→EqAt A.in1 s y x (e y))→Q (.bool (ng (items.any e))) s→wpAny c.M A (T x (.ref l)) Q E s)
  (hD:∀{A:Around} {Q:Value→Shared→Prop} {E:Value→Shared→Prop} {s:Shared} {K:Type} [DecidableEq K] {knd:KeyKind c.prog c.w K} {d:Addr} {f:K→Option Value} {i:K} {x:Value},knd.is i x=true→(d==Cp)=false→s.heap.MapOf knd d f→Q (.bool (ng (f i).isSome)) {s with toks:=s.toks+1}→wpAny c.M A (T x (.ref d)) Q E s):
  AY c k Jg (T x y) ((VL c.S a b).bind fun r=>.pure (ng r)):=by
 intro k₁ st s K X o Q E l R P HQ HE
 unfold VL at P
 revert P
 rcases eb:D7 b with _|t
 ·
  refine fun P=>AY.obj (α:=Bool) (C:=Jg) (g:=fun ob=>(aJ a ob).bind fun r=>.pure (ng r)) G SO hb (fun k' st s K X o Q E ob l R S P HQ HE=>?_) k₁ st s K X o Q E l R P HQ HE
  have D:∀es,Iy c k' s.heap (.dict es) y→Y c.l o ((((Internal.dyn .oval (CW a es)).bind fun r=>.pure r.isSome).bind fun r=>.pure (ng r)) st K X)→wpAny c.M c.A (T x y) Q E s:=fun es S P=>Di (u:=.oval) P fun(r:Option V) e P=>Rn S (ha.mono l) e fun{K} zz knd d f i hd hs hi hm hf=>hd▸hD hi hs hm (HQ.now _ R (by
    rcases r with _|z
    ·rw[show f i=none from hf];exact rfl
    ·exact AR hf fun v hv zz=>by rw[hv];exact rfl) P)
  rcases ob with _|_
  case list xs=>exact Di (u:=.bool) P fun r e P=>AR S fun d hd S=>AR S fun vs h1 h2=>AR (Yd (ha.mono l) c.A.in1 s h1 e) fun f h3 h4=>hd▸hL f h2 (fun z hz=>h4 z (by simpa using hz)) (HQ.now s.toks R (by rw[List.any_toArray,h3]) P)
  case dict es=>exact D es S P
  case sdict es=>exact D es S.dict P
  all_goals exact P.elim
 ·
  refine fun P=>Bh P fun u e P=>F3 eb fun q=>F3 e fun z=>?_
  subst q z
  exact AA (show ∃t',x= .str u t' from ha) fun t1 q=>AA (show ∃t',y= .str t t' from hb) fun t2 z=>q▸z▸hS t u t1 t2 (HQ.now s.toks R rfl P)
theorem KT {op:CmpOp}{p:Int→Int→Bool}{a b:V}{x y:Value}(ha:Ag c.tp k a x)(hb:Ag c.tp k b y)(h:∀{A:Around} {Q:Value→Shared→Prop} {E:Value→Shared→Prop} {s:Shared} (i j:Int) (t u:Tok),Q (.bool (p i j)) s→wpAny c.M A (CJ op (.int i t) (.int j u)) Q E s):
  AY c k Jg (CJ op x y) (QZ p a b):=
 .int (T:=fun x=>CJ op x y) ha fun i t=>.int (T:=fun y=>CJ op (.int i t) y) hb fun j u=>.still fun zz s zz zz zz hq=>h i j t u (hq s.toks _ rfl)
theorem Sa {a:V}{v:Value}(h:Ag c.tp k a v)(u:Ms a=false):(v== .none)=IR a:=by
 cases a with
 |none=>rw[show v= .none from h];rfl
 |undef=>exact(AS u.symm).elim
 |cref=>exact False.elim h
 |bool b=>rw[show v= .bool b from h];rfl
 |int i=>exact AA (show ∃t,v= .int i t from h) fun t q=>q▸rfl
 |str i=>exact AA (show ∃t,v= .str i t from h) fun t q=>q▸rfl
 |txt=>exact AA h fun s h=>AA h fun t q=>q▸rfl
 |tup xs=>exact AA h fun a h=>AA h fun n h=>AA h fun vs h=>h.2.2▸rfl
 |rcd xs fs=>exact AA h fun a h=>AA h fun n h=>AA h fun vs h=>AA h fun vs h=>h.2.2.2▸rfl
 |obj i=>exact AA h fun d h=>h.2▸rfl
 |rng a b=>exact AA h fun a h=>AA h fun n h=>AA h fun vs h=>AA h fun vs h=>h.2▸rfl
 |fn f=>rw[show v= .ref _ from h];rfl
 |cls f=>rw[show v= .ref _ from h];rfl
 |sta f=>rw[show v= .ref _ from h];rfl
 |bi f=>rw[show v= .builtin f from h];rfl
 |ty f=>rw[show v= .type f from h];rfl
theorem Pb {θ:Tp}{A:Around}{s:Shared}{a b:V}{x y:Value}(e:Lq a b=some true)(ha:Ag θ k a x)(hb:Ag θ k b y):EqAt A s x y true:=by
 rcases a with _|_|_|⟨i⟩|⟨i⟩|_
 case int=>exact AR (Ar.mp e) fun j e1 e2=>Fp e1 fun q=>by subst q;exact AA (show ∃t,x= .int i t from ha) fun t q=>AA (show ∃t,y= .int j t from hb) fun u z=>by rw[q,z,←e2];exact EqAt.int_int i t j u
 case str=>exact AR (Ar.mp e) fun j e1 e2=>F3 e1 fun q=>by subst q;exact AA (show ∃t,x= .str i t from ha) fun t q=>AA (show ∃t,y= .str j t from hb) fun u z=>by rw[q,z,←e2,←Jj];exact EqAt.str_str i t j u
 case none=>exact AR (Ar.mp e) fun j zz e2=>(AS e2).elim
 all_goals exact AU e
theorem Sm {θ:Tp}{A:Around}{s:Shared}{f:V→V→Option Bool}(H:∀a b x y,f a b=some true→Ag θ k a x→Ag θ k b y→EqAt A s x y true){xs:List V}:∀{ys:List V} {vs ws:List Value} {r:Bool},Ap θ k xs vs→Ap θ k ys ws→Lh f xs ys=some r→
  r=true∧vs.length=ws.length∧∀j (h1:j<vs.length) (h2:j<ws.length),EqAt A s vs[j] ws[j] true:=by
 induction xs with
 |nil=>
  intro ys vs ws r h1 h2 e
  rcases ys with _|_
  ·
   cases (show vs=[] from h1)
   cases (show ws=[] from h2)
   exact⟨(AG e).symm,rfl,fun j h=>absurd h (Nat.not_lt_zero j)⟩
  ·exact AU e
 |cons x xs ih=>
  intro ys vs ws r h1 h2 e
  rcases ys with _|⟨y,ys⟩
  ·exact AU e
  ·
   refine BJ h1 fun v us a1 a2 a3=>BJ h2 fun v' us' b1 b2 b3=>?_
   subst a3 b3
   refine AR (Af.mp e) fun q e1 e2=>?_
   rcases q with _|_
   ·exact AU e2
   ·
    have i:=ih a2 b2 e2
    refine⟨i.1,congrArg (·+1) i.2.1,fun j h1 h2=>?_⟩
    rcases j with _|j
    ·exact H _ _ _ _ e1 a1 b1
    ·exact i.2.2 j (Dk h1) (Dk h2)
theorem Mm (n:Nat):(Ft n).all (fun zz=>true)=true:=B1.mpr fun zz zz=>rfl
theorem RV {st:St}{s:Shared}(R:Al c.fm k st s.heap){A:Around}(hu:A.units<cLine){as bs:List V}{x y:Value}(ha:Ag c.tp k (.tup as) x)(hb:Ag c.tp k (.tup bs) y){r:Bool}(e:Lh Lq as bs=some r):
  r=true∧∃p q,x= .ref p∧y= .ref q∧RcAt A s x y true:=by
 refine HC ha fun p n vs h1 h2 h3=>HC hb fun q m ws g1 g2 g3=>?_
 have i:=Sm (A:=A.in1) (s:=s) (fun a b x y e ha hb=>Pb e ha hb) h2 g2 e
 refine⟨i.1,p,q,h3,g3,?_⟩
 have z:=RcAt.tuples (A:=A) (s:=s) (l:=p) (b:=q) (items:=vs.toArray) (items2:=ws.toArray) (e:=fun zz=>true) ⟨_,R.bears _ h1,rfl,n,rfl⟩ ⟨_,R.bears _ g1,rfl,m,rfl⟩ hu fun j h1 h2=>by simpa using i.2.2 j (by simpa using h1) (by simpa using h2)
 rw[Mm,Au,Au,i.2.1,beq_self_eq_true,Bool.and_true] at z
 rw[h3,g3]
 exact z
theorem We {st:St}{s:Shared}(R:Al c.fm k st s.heap){A:Around}(hu:A.units<cLine){a b:V}{x y:Value}(e:IF a b=some true)(ha:Ag c.tp k a x)(hb:Ag c.tp k b y):EqAt A s x y true:=by
 unfold IF at e
 rcases ea:Ld a with _|as
 ·rw[ea] at e;exact Pb e ha hb
 ·
  rw[ea] at e
  refine AR (Af.mp e) fun bs eb e1=>KD ea fun q=>KD eb fun q'=>?_
  subst q q'
  refine BJ (RV R hu ha hb e1).2 fun p q h1 h2 h3=>?_
  subst h1 h2
  by_cases z:p=q
  ·subst z;exact EqAt.same _
  ·exact EqAt.of_refs z h3
theorem XC (hu:c.A.units+4<cLine){a b:V}{x y:Value}(ha:Ag c.tp k a x)(hb:Ag c.tp k b y):AY c k Jg (CJ .Eq x y) (Y9 a b):=by
 unfold Y9
 rcases ea:GS a with _|i
 ·
  rcases et:Ld a with _|as
  ·
   refine .last fun r e=>?_
   unfold IF at e
   rw[et] at e
   exact .still fun k' s Q E l h=>Ur (P:=fun x y r=>RcAt c.A s x y r) e ha hb (fun i t j u=>RcAt.int_int i t j u) (fun i t j u=>by rw[←Jj];exact RcAt.str_str i t j u) (fun j u=>RcAt.none_int j u) _ _ _ _ (h s.toks _ rfl)
  ·
   refine .dyn (u:=.bool) (g:=fun r:Bool=>M.pure r) fun(r:Bool) e=>?_
   unfold IF at e
   rw[et] at e
   refine AR (Af.mp e) fun bs eb e1=>KD et fun q=>KD eb fun q'=>?_
   subst q q'
   ·refine fun k₁ st s K X o Q E l R P HQ HE=>?_
    have z:=RV (A:=c.A) R (by lia) (ha.mono l) (hb.mono l) e1
    exact BJ z.2 fun p q zz zz h3=>h3 _ _ _ _ (HQ.now s.toks R (by rw[z.1]) P)
 ·
  refine .look fun j eb=>Fo ea fun q=>Fo eb fun q'=>?_
  subst q q'
  refine .rd fun k' st s K X o Q E ob xs l R e hp P HQ HE=>Gc P fun ob₂ e2 P=>Bh P fun ys hp2 P=>Di (u:=.bool) (f:=fun a=>K a st) P fun(r:Bool) hr P=>?_
  refine R.list e hp (ha.mono l) fun p vs n q zz hs hL=>R.list e2 hp2 (hb.mono l) fun p2 ws m q2 zz hs2 hL2=>?_
  subst q q2
  have i:=Sm (A:=c.A.in1) (s:=s) (fun a b x y e ha hb=>We R (by show c.A.units+1<cLine;lia) e ha hb) hs hs2 hr
  have z:=RcAt.lists (A:=c.A) (e:=fun zz=>true) hL hL2 (by simpa using i.2.1) (by lia) fun j h1 h2=>i.2.2 j (by simpa using h1) (by simpa using h2)
  rw[Mm] at z
  exact z _ _ _ _ (HQ.now s.toks R (by rw[i.1]) P)
theorem RF {T:Value→Value→Sem Value}{ng:Bool→Bool}(h1:∀{A:Around} {Q:Value→Shared→Prop} {E:Value→Shared→Prop} {s:Shared} (p q:Bool),Q (.bool (ng (decide (p=q)))) s→wpAny c.M A (T (.bool p) (.bool q)) Q E s)
  (h2:∀{A:Around} {Q:Value→Shared→Prop} {E:Value→Shared→Prop} {s:Shared} (x:Value),Q (.bool (ng (x== .none))) s→wpAny c.M A (T x .none) Q E s){a b:V}{x y:Value}(ha:Ag c.tp k a x)(hb:Ag c.tp k b y):AY c k Jg (T x y) ((VJ a b).bind fun r=>.pure (ng r)):=by
 unfold VJ
 rcases eb:Pk b with _|q
 ·
  refine .chk fun z=>LD z fun z=>?_
  subst z
  rw[show y= .none from hb]
  exact .chk (m:=M.bind (.pure (IR a)) fun r=>.pure (ng r)) fun u=>.still fun zz s zz zz zz h=>h2 x (h s.toks _ (by rw[Sa ha (by revert u;cases Ms a<;>simp)]))
 ·
  refine .look fun p e=>Qe eb fun z=>Qe e fun z'=>?_
  subst z z'
  rw[show x= .bool p from ha,show y= .bool q from hb]
  exact .still fun zz s zz zz zz h=>h1 p q (h s.toks _ rfl)
theorem Jl (G:Good c)(hu:c.A.units+4<cLine)(SO:Gg c.tp){op:CmpOp}{a b:V}{x y:Value}(ha:Ag c.tp k a x)(hb:Ag c.tp k b y):AY c k Jg (CJ op x y) (Kg c.S op a b):=by
 cases op with
 |Eq=>exact XC hu ha hb
 |NotEq=>exact .look fun r e=>.still fun k' s Q E l h=>Ur (P:=fun x y r=>RcNeAt c.A s x y (!r)) e ha hb (fun i t j u=>RcNeAt.int_int i t j u) (fun i t j u=>by rw[←Jj];exact RcNeAt.str_str i t j u) (fun j u=>RcNeAt.none_int j u) _ _ _ _ (h s.toks _ rfl)
 |Lt=>exact KT ha hb fun i j t u h=>lt_int h
 |Gt=>exact KT ha hb fun i j t u h=>gt_int h
 |GtE=>exact KT ha hb fun i j t u h=>ge_int h
 |LtE=>
  show AY c k Jg _ (Xc a b)
  unfold Xc
  exact .intOr (T:=fun x=>CJ .LtE x y) ha (fun i t=>.int (T:=fun y=>CJ .LtE (.int i t) y) hb fun j u=>.still fun zz s zz zz zz h=>le_int (h s.toks _ rfl))
   (.str (T:=fun x=>CJ .LtE x y) ha fun i t=>.str (T:=fun y=>CJ .LtE (.str i t) y) hb fun j u=>.still fun zz s zz zz zz h=>PySem.P.le_str (h s.toks _ rfl))
 |Is=>exact RF (T:=CJ .Is) (ng:=fun b=>b) (fun p q h=>wpAny_is_plain rfl (by rcases p with _|_<;>rcases q with _|_<;>exact h)) (fun x h=>is_none_gen h) ha hb
 |IsNot=>exact RF (T:=CJ .IsNot) (ng:=fun b=> !b) (fun p q h=>wpAny_isNot_plain rfl (by rcases p with _|_<;>rcases q with _|_<;>exact h)) (fun x h=>isnot_none_gen h) ha hb
 |In=>exact RG G SO ha hb (T:=CJ .In) (ng:=fun b=>b) (fun u v t w h=>SB.contains h) (fun e h1 h2 h3=>in_listAt e h1 h2 h3) fun h1 h2 h3 h4=>wpAny_in_of h1 h2 h3 h4
 |NotIn=>exact RG G SO ha hb (T:=CJ .NotIn) (ng:=fun b=> !b) (fun u v t w h=>SB.notContains h) (fun e h1 h2 h3=>notIn_listAt e h1 h2 h3) fun h1 h2 h3 h4=>wpAny_notIn_of h1 h2 h3 h4
end
end
theorem Hz {prog:C0}{w:World}{A:Around}{E:Value→Shared→Prop}{s:Shared}{value slice:Expr}{o i:Value}{T id:String}{Q:Value→Shared→Prop}(hT:s.TypeIs o T)
  (hl:typeLookup (.type T) "__getitem__"=pure (some (.builtin id)))(hg:wpAny (model prog w) A (getItem o i) Q E s):wpAny (model prog w) A (DU value slice o i) Q E s:=by
 refine AA (show ∃ops,subscripted slice false o i=operate ops (getItem o i) from ?_) fun ops h=>tail_any hT hl hg h
 rcases slice with _|_|_|_|_|_|_|_|_|_|_|_|_|_|_|_|_|_|_|_|_|_|_|_|_|_|⟨a,b,st,p⟩
 case Slice=>rcases st with _|_<;>exact⟨_,rfl⟩
 all_goals exact⟨_,rfl⟩
theorem LH {k:Int}{n j:Nat}(h:DV k n=some j):n≤1000000∧j<n∧(0≤k∧j=k.toNat∨k<0∧-k≤(n:Int)∧j=(k+n).toNat):=by
 unfold DV at h
 by_cases hn:n≤1000000
 ·rw[if_pos hn] at h
  by_cases h0:0≤k
  ·rw[if_pos h0] at h
   by_cases h1:k.toNat<n
   ·rw[if_pos h1] at h;exact E1 h fun h=>⟨hn,h▸h1,.inl ⟨h0,h.symm⟩⟩
   ·rw[if_neg h1] at h;exact AU h
  ·rw[if_neg h0] at h
   by_cases h1:-k≤(n:Int)
   ·rw[if_pos h1] at h;exact E1 h fun h=>⟨hn,by lia,.inr ⟨by lia,h1,h.symm⟩⟩
   ·rw[if_neg h1] at h;exact AU h
 ·rw[if_neg hn] at h;exact AU h
theorem Ap.slice {θ:Tp}{k:Kn}{xs:List V}{vs:List Value}(h:Ap θ k xs vs)(a b:Nat):Ap θ k (Ad xs a b) (Ad vs a b):=(h.take b).drop a
theorem NZ {n d r:Nat}{a:V}(h:Ia n a d=some r){θ:Tp}{k:Kn}{v:Value}(ha:Ag θ k a v):∃lo,IsPart v lo∧(d=0→kms_lo lo n=r)∧(d=n→kms_hi lo n=r):=by
 unfold Ia at h
 rcases ei:DJ a with _|i
 ·
  rw[ei] at h
  exact IJ h fun z h=>LD z fun z=>by subst z;rw[show v= .none from ha];exact⟨none,.none,fun q=>(AG h▸q).symm▸rfl,fun q=>(AG h▸q).symm▸rfl⟩
 ·
  rw[ei] at h
  refine Fp ei fun z=>E1 h fun h'=>?_
  subst z h'
  refine AA (show ∃t,v= .int i t from ha) fun t q=>⟨some i,q▸ .int i t,fun zz=>?_,fun zz=>?_⟩
  ·unfold kms_lo
   by_cases h0:i<0
   ·simp only[if_pos h0,if_neg (show ¬0≤i by lia)];lia
   ·simp only[if_neg h0,if_pos (show 0≤i by lia)]
  ·unfold kms_hi
   by_cases h0:i<0
   ·simp only[if_pos h0,if_neg (show ¬0≤i by lia)];lia
   ·simp only[if_neg h0,if_pos (show 0≤i by lia)]
theorem Jz (value:Expr)(x:Str)(t:Tok)(r:Value):letTemporaryGo value (.str x t) r=pure ():=by
 rcases value with _|_<;>rfl
noncomputable abbrev Qi (k:Int)(n j:Nat):Prop:=n≤1000000∧j<n∧(0≤k∧j=k.toNat∨k<0∧-k≤(n:Int)∧j=(k+n).toNat)
theorem S1 {k:Int}{n j:Nat}(h:Qi k n j):k=j∨k<0∧k+n=j:=
 h.2.2.imp (fun z=>by rw[z.2];exact(FQ z.1).symm) fun z=>⟨z.1,by
  rw[z.2.2]
  have q:=Int.sub_nonneg.mpr z.2.1
  rw[Int.sub_neg,Int.add_comm] at q
  exact(FQ q).symm⟩
theorem HA {k:Int}{n j:Nat}(h:Qi k n j):-2 ^ 63≤k∧k<2 ^ 63:=
 (S1 h).elim (fun e=>e▸⟨Gi (by decide) (Ck j),Int.lt_of_lt_of_le (Ff.mpr h.2.1) (Gi (Int.ofNat_le.mpr h.1) (by decide))⟩) fun e=>
  ⟨Gi (show(-2 ^ 63:Int)≤-1000000 by decide) (Gi (Int.neg_le_neg (Int.ofNat_le.mpr h.1)) (Int.neg_le_of_neg_le (h.2.2.elim (fun z=>absurd e.1 (Fv.mpr z.1)) (·.2.1)))),Int.lt_trans e.1 (by decide)⟩
theorem OJ {k:Int}{n j:Nat}(h:Qi k n j):(k<0→0≤k+n∧k+n<n)∧(¬k<0→0≤k∧k<n):=
 (S1 h).elim (fun e=>e▸⟨fun q=>absurd q (Fv.mpr (Ck j)),fun zz=>⟨Ck j,Ff.mpr h.2.1⟩⟩) fun e=>
  ⟨fun zz=>e.2▸⟨Ck j,Ff.mpr h.2.1⟩,fun q=>absurd e.1 q⟩
theorem Xp {k:Int}{n j:Nat}(h:Qi k n j):¬k< -2 ^ 63∧¬2 ^ 63≤k:=⟨Fv.mpr (HA h).1,Int.not_le.mpr (HA h).2⟩
theorem PD {i:Int}{n j:Nat}(hj:DV i n=some j):seqIndex? i n=some j:=by
 have h:=LH hj
 unfold seqIndex?
 by_cases h0:i<0
 ·simp only[if_pos h0];rw[if_pos (by simp only[BV,decide_eq_true_eq];exact(OJ h).1 h0)];exact congrArg some (h.2.2.elim (fun z=>absurd h0 (Fv.mpr z.1)) fun z=>z.2.2.symm)
 ·simp only[if_neg h0];rw[if_pos (by simp only[BV,decide_eq_true_eq];exact(OJ h).2 h0)];exact congrArg some (h.2.2.elim (fun z=>z.2.symm) fun z=>absurd z.1 h0)
section
variable {c:Cx}{k:Kn}
theorem Rr {st:St}{s:Shared}{K:V→St→Ay}{o:Except V V×List O}{Q:Value→Shared→Prop}{E:Value→Shared→Prop}{value slice:Expr}{l:Addr}{vs:List Value}{xs:List V}{i:Int}{t:Tok}{j:Nat}{z:V}
  (R:Al c.fm k st s.heap)(hs:Ap c.tp k xs vs)(hL:s.heap.IsList l vs.toArray)(hj:DV i xs.length=some j)(hz:xs[j]? =some z)(P:Y c.l o (K z st))(HQ:FV c (CV c) k s K o Q):wpAny c.M c.A (DU value slice (.ref l) (.int i t)) Q E s:=by
 have h:=LH hj
 have hq:=hs.length
 refine AR (hs.get hz) fun v hv hc=>Hz hL.typeIs slot_list_getitem.lookup (h.2.2.elim (fun z=>?_) fun z=>?_)
 ·exact wpAny_getItem_list hL z.1 (HA h).2 (by rw[←z.2];simpa using hv) (HQ.now s.toks R hc P)
 ·exact wpAny_getItem_list_neg hL z.1 (by rw[Au,←hq];exact Int.neg_le_of_neg_le z.2.1) (HA h).1 (by rw[Au,←hq,←z.2.2];simpa using hv) (HQ.now s.toks R hc P)
theorem Vy (G:Good c)(SO:Gg c.tp){value slice:Expr}{a b:V}{x y:Value}(ha:Ag c.tp k a x)(hb:Ag c.tp k b y):AY c k (CV c) (DU value slice x y) (T9 c.S a b):=by
 unfold T9
 rcases ea:D7 a with _|t
 ·
  cases et:Ld a with
  |some xs=>
   refine KD et fun q=>?_
   subst q
   refine .int (T:=fun y=>DU value slice x y) hb fun i u=>fun k₁ st s K X o Q E l R P HQ HE=>Di (u:=.nat) P fun(j:Nat) hj P=>Di (u:=.val) P fun(z:V) hz P'=>HC (ha.mono l) fun p n vs h1 h2 h3=>?_
   subst h3
   have h:=LH hj
   have hq:=h2.length
   have hT:IsTup s.heap p vs.toArray:=⟨_,R.bears _ h1,rfl,n,rfl⟩
   refine AR (h2.get hz) fun v hv hc=>Hz ⟨_,R.bears _ h1,rfl⟩ PySem.F.slot_tuple_getitem.lookup (getItem_tuple hT (HA h).1 (HA h).2 (PD (by rw[Au,←hq];exact hj)) (by simpa using hv) (HQ.now s.toks R hc P'))
  |none=>
  refine AY.obj G SO ha fun k' st s K X o Q E ob l R S P HQ HE=>?_
  have D:∀es,Iy c k' s.heap (.dict es) x→Y c.l o (((Internal.dyn .oval (CW b es)).bind fun r=>Internal.dyn .val r) st K X)→wpAny c.M c.A (DU value slice x y) Q E s:=fun es S P=>
   Di (u:=.oval) P fun(r:Option V) hr P=>Di (u:=.val) P fun(z:V) hz P=>Rn S (hb.mono l) hr fun{K'} zz knd d f i hd zz hi hm hf=>by
    subst hz hd
    exact AR hf fun v hv hc=>Hz hm.typeIs slot_dict_getitem.lookup (wpAny_getItem_of hi hm hv (HQ.now _ R hc P))
  rcases ob with _|⟨xs⟩|⟨es⟩|_|_|⟨es⟩|_
  case list=>
   refine Bh P fun i ei P=>Di (u:=.nat) P fun(j:Nat) hj P=>Di (u:=.val) P fun(z:V) hz P'=>Fp ei fun q=>?_
   subst q
   exact AA (show ∃t,y= .int i t from hb) fun t q=>AR S fun d hd S=>AR S fun vs h1 h2=>by rw[q,hd];exact Rr R h1 h2 hj hz P' HQ
  case dict=>exact D es S P
  case sdict=>exact D es S.dict P
  all_goals exact P.elim
 ·
  refine .int (T:=fun y=>DU value slice x y) hb fun i u=>.dyn (u:=.nat) fun(j:Nat) hj=>.dyn (u:=.nat) fun(ch:Nat) hc=>F3 ea fun q=>?_
  subst q
  refine AA (show ∃u,x= .str t u from ha) fun u q=>?_
  subst q
  have h:=LH hj
  refine .still fun zz s zz zz zz hq=>Hz (Fh s _ _) PySem.F.slot_str_getitem.lookup (PySem.P.getItem_str (c:=ch) (by simp only[Bool.or_eq_false_iff,decide_eq_false_iff_not];exact Xp h) ?_ (hq _ _ ⟨_,rfl⟩))
  exact(congrArg (fun z=>Option.bind z _) (PD hj)).trans hc
theorem X3 (lo hi:Option Int)(n:Nat):DI.Str.strSliceIndices lo hi 1 n=sliceRange (kms_lo lo n:Nat) (kms_hi hi n:Nat) 1:=by
 have:=kms_bounds lo hi n
 have e1:=congrArg Fa this
 have e2:=congrArg (fun p=>p.2.1) this
 simp only at e1 e2
 rw[←e1,←e2]
 rfl
theorem Rp (v:Option Int)(n:Nat):kms_hi v n≤n:=by
 unfold kms_hi
 split
 ·exact Ak _
 ·split
  ·exact Nat.sub_le ..
  ·exact Nat.min_le_right ..
theorem JF {α:Type}(xs:List α)(a b:Nat):Ad xs a b=(xs.drop a).take (b - a):=by
 unfold Ad
 rw[List.drop_take]
theorem Qt (x:Str)(lo hi:Option Int):Txt.slice x lo hi=⟨(Ad x.cps.toList (kms_lo lo x.cps.size) (kms_hi hi x.cps.size)).toArray⟩:=by
 unfold Txt.slice
 rw[X3,show x.length=x.cps.size from rfl,sliceRange_one,pick_run,←JF]
 split
 ·rename_i h
  simp only[beq_self_eq_true,Bool.true_and,AH,List.length_range,beq_iff_eq] at h
  have h2:=Rp hi x.cps.size
  rw[JF,h]
  by_cases hz:x.cps.size=0
  ·have e:x.cps.toList=[]:=By.mp (by simpa using hz)
   have e2:x.cps= #[]:=Array.eq_empty_of_size_eq_zero hz
   rw[e,List.drop_nil,FJ,←e2]
  ·have e:kms_lo lo x.cps.size=0:=by lia
   rw[e,List.drop_zero,EX (by simp)]
 ·rfl
theorem RC (G:Good c)(SO:Gg c.tp){value:Expr}{lower upper:Option Expr}{sp:Pos}{a l u:V}{x y z:Value}(ha:Ag c.tp k a x)(hl:Ag c.tp k l y)(hu:Ag c.tp k u z){st:St}{s:Shared}{K:V→St→Ay}{X:V→St→Ay}{o:Except V V×List O}{Q:Value→Shared→Prop}{E:Value→Shared→Prop}
  (R:Al c.fm k st s.heap)(P:Y c.l o (Nv c.S a l u st K X))(HQ:FV c (CV c) k s K o Q):
   wpAny c.M c.A (DU value (.Slice lower upper none sp) x (.ref s.heap.objs.size)) Q E {s with heap:=s.heap.push {cls:=.type "slice",data:=.fields #[y,z,.none]}}:=by
 unfold Nv at P
 revert P
 rcases ea:D7 a with _|t
 ·
  have H:∀{xs:List V} {r:Value},Iy c k s.heap (.list xs) r→x=r→Y c.l o (((B2 (oL (.list xs))).bind fun xs=>req (BF xs.length) ((dyn .nat (Ia xs.length l 0)).bind fun a=>(dyn .nat (Ia xs.length u xs.length)).bind fun b=>GK (.list (Ad xs a b)))) st K X)→
    wpAny c.M c.A (DU value (.Slice lower upper none sp) x (.ref s.heap.objs.size)) Q E {s with heap:=s.heap.push {cls:=.type "slice",data:=.fields #[y,z,.none]}}:=fun{xs r} S er P=>by
   refine AR S fun d hd S=>AR S fun vs hs hL=>Ef P fun hz P=>Di (u:=.nat) P fun(p:Nat) hp P=>Di (u:=.nat) P fun(q:Nat) hq P=>?_
   refine E2 (NZ hp hl) fun lo p1 p3 zz=>E2 (NZ hq hu) fun hi q1 zz q3=>?_
   have hlen:=hs.length
   rw[er,hd]
   refine kba_turn (value':=.Name "_" ⟨0,0,0,0⟩) (fun zz=>rfl) (kms_slice_lit (zs:=Ad vs p q) R.F R.N hL p1 q1 ?_ (fun l h' F' N' hlt=>?_) rfl (fun zz=>rfl) ?_)
   ·show kms_pick vs lo hi=_
    unfold kms_pick
    rw[←hlen,p3 rfl,q3 rfl,JF]
   ·exact HQ ⟨_,k.I⟩ (.obj st.heap.length) _ ⟨st.loc,st.heap++[O.list (Ad xs p q)]⟩ h' s.toks (BI.app _) (R.pushList (hs.slice _ _) F' N' hlt) (R.newAt _) P
   ·rw[Au,←hlen]
    exact AM hz Cv
  rcases a with _|_|_|_|_|_|_|_|⟨i⟩|_|_|⟨n⟩|_
  case obj=>
   refine fun P=>Gc P fun ob' e1 P=>Bh P fun ob e2 P=>?_
   have S:=R.seen e1 ha
   rw[AG e2] at S
   have P:Y c.l o (((B2 (oL (Nl ob))).bind fun xs=>req (BF xs.length) ((dyn .nat (Ia xs.length l 0)).bind fun a=>(dyn .nat (Ia xs.length u xs.length)).bind fun b=>GK (.list (Ad xs a b)))) st K X):=P
   revert S P
   rcases Nl ob with _|⟨xs⟩|_
   case list=>exact fun S P=>H S rfl P
   all_goals exact fun zz P=>P.elim
  case sta=>
   refine fun P=>?_
   have keep:∀b o,c.base.get? b=some o→s.heap.get? b=some o:=fun b o e=>R.F.keep b o (G.stays b o e)
   have P:Y c.l o (((B2 (oL (c.S.sta n))).bind fun xs=>req (BF xs.length) ((dyn .nat (Ia xs.length l 0)).bind fun a=>(dyn .nat (Ia xs.length u xs.length)).bind fun b=>GK (.list (Ad xs a b)))) st K X):=P
   revert P
   rcases e:c.S.sta n with _|⟨xs⟩|_
   case list=>exact fun P=>AR (SO.list n xs e) fun vs h1 h2=>H ⟨_,rfl,vs,h1.mono (BI.nil _),Ae (fun o z=>⟨keep _ _ z.1,z.2⟩) h2⟩ ha P
   all_goals exact fun P=>P.elim
  all_goals exact fun P=>P.elim
 ·
  refine fun P=>Ef P fun hz P=>Di (u:=.nat) P fun(p:Nat) hp P=>Di (u:=.nat) P fun(q:Nat) hq P'=>F3 ea fun e=>?_
  subst e
  refine AA (show ∃u,x= .str t u from ha) fun u e=>?_
  subst e
  refine E2 (NZ hp hl) fun lo p1 p3 zz=>E2 (NZ hq hu) fun hi q1 zz q3=>?_
  have hsz:t.length≤CM:=AM hz Cv
  have e:=Qt t lo hi
  rw[p3 rfl,q3 rfl] at e
  have fin:∀h' t' tk,Fr c.h₀ c.env.locals h' R.m→News c.h₀ c.env.locals h' (R.MO++(c.J++k.I))→Q (.str (Txt.slice t lo hi) t') {s with heap:=h',toks:=tk}:=fun h' t' tk F' N'=>by
   rw[e]
   exact HQ k (.str _) _ st h' tk (.refl _) (R.same F' N') ⟨_,rfl⟩ P'
  rcases p1 with _|_<;>cases q1
  ·exact slice_strN_nn R.F R.N fin rfl (Jz _ _ _) hsz
  ·exact slice_strN_ns R.F R.N fin rfl (Jz _ _ _) hsz
  ·exact slice_strN_sn R.F R.N fin rfl (Jz _ _ _) hsz
  ·exact slice_strN_ss R.F R.N fin rfl (Jz _ _ _) hsz
end
section
open Builtin Builtin.ObjectAttr
set_option backward.match.sparseCases false in
noncomputable def Ru:Value→Bool
 | .ref _=>true
 |_=>false
theorem U1 {v:Value}(h:Ru v=true):∃C,v= .ref C:=by
 rcases v with _|_<;>first|exact(AS h).elim|exact⟨_,rfl⟩
noncomputable def IU:List Value→Bool
 |[]=>false
 |a::r=>(Ru a&&IU r)||(a::r==[.type "Exception",.type "BaseException",.type "object"])
theorem I8 {l:List Value}(h:IU l=true):(∀self,refuseLoop self "__setattr__" l=pure ())∧l.contains (.type "BaseException")=true∧l.contains (.type "object")=true∧l.isEmpty=false:=by
 induction l with
 |nil=>cases h
 |cons a l ih=>
  refine(Bool.or_eq_true_iff.mp h).elim (fun h=>?_) fun h=>?_
  ·refine AA (U1 (AP.mp h).1) fun C e=>?_
   subst e
   have i:=ih (AP.mp h).2
   exact⟨fun self=>(refuseLoop_ref self _ C l).trans (i.1 self),by rw[List.contains_cons,i.2.1,Bool.or_true],by rw[List.contains_cons,i.2.2.1,Bool.or_true],rfl⟩
  ·rw[eq_of_beq h]
   exact⟨PySem.F.store_Exception.passes,by decide,by decide,rfl⟩
noncomputable def Gw (K:Frag)(C:Addr):Bool:=(clsIn K C).any fun cd=>IU cd.mro
section
variable {prog:C0}{w:World}{A:Around}{E:Value→Shared→Prop}{s:Shared}{K:Frag}{C x:Addr}{ox:Obj}{od:Option Obj}{name:Str}{v:Value}
theorem My (X:K.In s.heap)(h:Gw K C=true):∃cd,clsIn K C=some cd∧Looks (model prog w) s.heap (mroOf (.ref C)) cd.mro∧IU cd.mro=true∧∀b,Looks (model prog w) s.heap (FY (.ref C) b) (cd.mro.contains b):=by
 obtain⟨cd,hc,ho⟩:=any_some h
 exact⟨cd,hc,(looks_clsIn X hc).andThen .now,ho,fun b=>looks_mroIn X (by unfold mroIn;rw[hc,Option.bind_some,if_neg (by rw[(I8 ho).2.2.2];decide)])⟩
theorem Oz {Q:Unit→Shared→Prop}(X:K.In s.heap)(I:InstAt s.heap x ox C od)(hs:findIn K (.ref C) "__setattr__"=some (some (.builtin "object.__setattr__")))(hp:Gw K C=true)(ht:takerIn K C name=some none)
  (h:∀b,wpAny (model prog w) A.in1 (storeInOwnDict (.ref x) (.ref C) (.str name s.toks) name v b) (fun fin s'=>fin= .done (.ret .none)∧Q () s') (fun e s'=>E e s') {s with toks:=s.toks+1}):
  wpAny (model prog w) A (setAttr (.ref x) name v) Q E s:=by
 have SF:=PySem.F.store_object
 refine set_plain X I hs ?_
 refine AA (My (prog:=prog) (w:=w) X hp) fun cd Z=>?_
 have L:=I8 Z.2.2.1
 have sub:Looks (model prog w) s.heap (isInstance (.ref x) (.type "object")) true:=I.type.andThen (by have:=Z.2.2.2 (.type "object");rwa [L.2.2.1] at this)
 refine codeAny_call_builtin SF.slot.plain SF.entry (@check_slot (model prog w) _ _ _ "object.__setattr__" "object" "__setattr__" (.ref x) [.str name s.toks,v] [] _ SF.kind SF.split (sub.keeps fun zz zz e=>e) (SF.args (.ref x) (.str name s.toks) v) ?_)
 refine AA (show ∃attr,findIn K (.ref C) name=some attr∧Looks (model prog w) s.heap (storeTaker? attr) none from ?_) fun attr ha=>?_
 ·obtain⟨attr,ha,hr⟩:=Af.mp ht
  refine⟨attr,ha,?_⟩
  rcases attr with _|a
  ·exact .now
  ·
   obtain⟨b,hb,e⟩:=Ar.mp hr
   refine(looks_takesIn X hb).andThen ?_
   rcases b with _|_
   ·exact .now
   ·cases e
 rw[osa_eq,refuse_eq]
 refine AD (AD (I.type _ _ _ _ (fun zz zz e=>e) (AD (Z.2.1 _ _ _ _ (fun zz zz e=>e) ?_))))
 rw[L.1]
 refine AJ (AD (I.type _ _ _ _ (fun zz zz e=>e) (AD (looks_findIn X ha.1 _ _ _ _ (fun zz zz e=>e) (AD (ha.2 _ _ _ _ (fun zz zz e=>e) ?_))))))
 refine Br (h _) (fun fin s' z=>?_) fun zz zz z=>z
 rw[z.1]
 exact z.2
theorem XV {d:Addr}{es:List C8}{n:Nat}{Q:Unit→Shared→Prop}(D:s.heap.get? d=some (dictOf es n))(hl:(getL name es).isSome=true)
  (h:∀h',Bd d s.heap h'→h'.get? d=some (dictOf (putL name (De w.params name) (.str name s.toks) v es) (putN name es n))→Q () {s with heap:=h',toks:=s.toks+1}):wpAny (model prog w) A (nsSet d name v) Q E s:=by
 unfold nsSet
 refine AD (AD (wpAny_askSetting (AJ (AD (wpAny_mkText (AD (wpAny_loadPart D ?_)))))))
 have c:(!es.any (·.key.isStr name)&&es.any (·.refKey))=false:=by
  unfold getL at hl
  rcases he:es.find? (·.key.isStr name) with _|en<;>rw[he] at hl
  ·by_cases z:es.any (·.refKey)=true
   ·exact(AS ((congrArg Option.isSome (if_pos z)).symm.trans hl)).elim
   ·rw[Bool.not_eq_true] at z;rw[z,Bool.and_false]
  ·rw[List.any_eq_true.mpr ⟨en,List.mem_of_find?_eq_some he,List.find?_some he⟩];rfl
 dsimp only
 rw[aRefKeyMayBeTheName_at,←Array.any_toList,←Array.any_toList,c]
 refine wpAny_updatePart D (h _ ⟨?_,fun b hb=>Dl _ _ (DS hb)⟩ ?_)
 ·first|exact Bp (Heap.size_update ..).symm|simp
 ·rw[←putName_dict]
  exact DH _ D (by rw[putName_dict];rfl)
theorem Ry {d:Addr}{es:List C8}{n:Nat}{tk:Tok}{Q:Fin→Shared→Prop}(D:s.heap.get? d=some (dictOf es n))(hl:(getL name es).isSome=true)(hz:(putL name (De w.params name) (.str name s.toks) v es).length≤1000)
  (h:∀h',Bd d s.heap h'→h'.get? d=some (dictOf (putL name (De w.params name) (.str name s.toks) v es) (putN name es n))→Q (.done (.ret .none)) {s with heap:=h',toks:=s.toks+1}):wpAny (model prog w) A (storeInDict d (.str name tk) name v) Q E s:=by
 refine AD (AJ (AD (XV D hl fun h' h1 h2=>AD (wpAny_lookBehind h2 (pastItsLine_dict (by rw[Au,sizeLine_eq];lia)) (AJ (h h' h1 h2))))))
theorem Vl {dx:Addr}{es:List C8}{n:Nat}{Q:Unit→Shared→Prop}(X:K.In s.heap)(I:InstAt s.heap x ox C (some (dictOf es n)))(hd:ox.dict=some dx)(hs:findIn K (.ref C) "__setattr__"=some (some (.builtin "object.__setattr__")))(hp:Gw K C=true)(ht:takerIn K C name=some none)(hh:Eu K C=true)
  (hl:(getL name es).isSome=true)(hz:(putL name (De w.params name) (.str name (s.toks+1)) v es).length≤1000)
  (h:∀h',Bd dx s.heap h'→h'.get? dx=some (dictOf (putL name (De w.params name) (.str name (s.toks+1)) v es) (putN name es n))→Q () {s with heap:=h',toks:=s.toks+2}):
  wpAny (model prog w) A (setAttr (.ref x) name v) Q E s:=by
 refine Oz X I hs hp ht fun b=>?_
 obtain⟨cd,hc,hd'⟩:=any_some hh
 obtain⟨hx,hcl,hn,hdd⟩:=I
 obtain⟨oc,odi,oda,osl⟩:=ox
 dsimp only at hcl hd hdd
 subst hcl hd
 refine AD (AJ (AD (AD (wpAny_loadPart hx (AD (looks_clsIn X hc _ _ _ _ (fun zz zz e=>e) ?_))))))
 rw[hd']
 exact AJ (a:=some dx) (Ry (s:={s with toks:=s.toks+1}) hdd hl hz fun h' h1 h2=>⟨rfl,h h' h1 h2⟩)
theorem Wp {Q:Unit→Shared→Prop}(X:K.In s.heap)(I:InstAt s.heap x ox C none)(hd:ox.dict=none)(hs:findIn K (.ref C) "__setattr__"=some (some (.builtin "object.__setattr__")))(hp:Gw K C=true)(ht:takerIn K C name=some none)(hh:Eu K C=true)
  (h:∀h',h'.get? x=some {ox with dict:=some s.heap.objs.size}→h'.get? s.heap.objs.size=some (dictOf [⟨De w.params name,.str name (s.toks+1),v⟩] 1)→(∀b o,b≠x→s.heap.get? b=some o→h'.get? b=some o)→Q () {s with heap:=h',toks:=s.toks+2}):
  wpAny (model prog w) A (setAttr (.ref x) name v) Q E s:=by
 refine Oz X I hs hp ht fun b=>?_
 refine AR (any_some hh) fun cd hc hd'=>?_
 obtain⟨hx,hcl,hn,hdd⟩:=I
 have hfr:=(Heap.get?_some_iff.mp hx).2
 obtain⟨oc,odi,oda,osl⟩:=ox
 dsimp only at hcl hd hdd
 subst hcl hd
 have ne:x≠s.heap.objs.size:=As (B4 hx)
 refine AD (AJ (AD (AD (wpAny_loadPart hx (AD (looks_clsIn X hc _ _ _ _ (fun zz zz e=>e) ?_))))))
 rw[hd']
 have hx1:(s.heap.push {cls:=.type "dict",data:=.dict #[]}).get? x=some ⟨.ref C,none,oda,osl⟩:=BN _ hx
 have fin:wpAny (model prog w) A.in1 (do
   let d ←alloc {cls:=.type "dict",data:=.dict #[]}
   update x fun o=>{o with dict:=some d}
   dictMade (.ref C) x d) (fun d s'=>wpAny (model prog w) A.in1 (match d with
    |some d=>storeInDict d (.str name s.toks) name v
    |none=>noDictFor (.ref x) (.ref C) name b) (fun fin s'=>fin= .done (.ret .none)∧Q () s') (fun e s'=>E e s') s') (fun e s'=>E e s') {s with toks:=s.toks+1}:=by
  refine AD (wpAny_alloc (AD (wpAny_update hx1 (AJ (a:=some s.heap.objs.size) ?_))))
  have hD:((s.heap.push {cls:=.type "dict",data:=.dict #[]}).update x fun o=>{o with dict:=some s.heap.objs.size}).get? s.heap.objs.size=some (dictOf [] 0):=(Dl _ _ ne).trans (Heap.get?_push_at rfl rfl)
  refine Ry (s:=⟨_,s.gens,s.drawn,s.toks+1,s.os⟩) hD rfl (by show 1≤1000;decide) fun h' h1 h2=>⟨rfl,h h' ?_ h2 fun b o hb e=>?_⟩
  ·refine(h1.2 x ne).trans (DH _ hx1 ?_)
   rcases oda with _|_<;>first|rfl|exact hfr
  ·exact(h1.2 b (As (B4 e))).trans ((Dl _ _ (DS hb)).trans (BN _ e))
 rcases oda with _|_<;>first|exact fin|cases hn
theorem Si:builtinKind "BaseException.__getattribute__"=some .slot:=by decide+kernel
theorem Qa:splitId "BaseException.__getattribute__"=some ("BaseException","__getattribute__"):=by decide+kernel
theorem Qb:plainId "BaseException.__getattribute__"=true:=by decide+kernel
theorem Sj (self:Value):bindSpecial (.builtin "BaseException.__getattribute__") self=pure (.builtin "BaseException.__getattribute__",[self]):=
 (Slot.of (T:="BaseException") (name:="__getattribute__") (owner:="BaseException") (n:="__getattribute__") (by rw[typeLookup_type,builtinLookup_eq_fast];kernel_rfl) (by decide+kernel) (by decide+kernel) (by decide+kernel)
  (.inl (by decide+kernel)) (by rw[isSubtype_type];kernel_rfl)).bind self
theorem Wq {expr:Bool}{Q:Value→Shared→Prop}(X:K.In s.heap)(I:InstAt s.heap x ox C od)(hga:findIn K (.ref C) "__getattribute__"=some (some (.builtin "BaseException.__getattribute__")))(hgh:findIn K (.ref C) "__getattr__"=some none)(hp:Gw K C=true)
  (hf:findObj K C od name=some (.value v))(hh:handedIn v=true)(h:Q v {s with toks:=s.toks+1}):wpAny (model prog w) A (getAttr (.ref x) name expr) Q E s:=by
 refine AA (My (prog:=prog) (w:=w) X hp) fun cd Z=>?_
 have sub:Looks (model prog w) s.heap (isInstance (.ref x) (.type "BaseException")) true:=I.type.andThen (by have:=Z.2.2.2 (.type "BaseException");rwa [(I8 Z.2.2.1).2.1] at this)
 have L1:=looks_findIn (M:=model prog w) X hga
 have L2:=looks_findIn (M:=model prog w) X hgh
 have L3:=looks_find (M:=model prog w) X I hf
 unfold getAttr getAttrBy
 refine AD (wpAny_mkText (BA (AD (I.type _ _ _ _ (fun zz zz e=>e) (AD (L1 _ _ _ _ (fun zz zz e=>e) ?_))))))
 show wpAny _ _ (getAttrByItsOwn _ _ _ _ _ _) _ _ _
 unfold getAttrByItsOwn
 refine AD (L2 _ _ _ _ (fun zz zz e=>e) (AD (wpAny_attempt (BA ?_))))
 have e:callGetattribute (.ref x) (.str name s.toks) (.builtin "BaseException.__getattribute__") expr=boundAndCalled (.builtin "BaseException.__getattribute__") (.ref x) (.str name s.toks):=by unfold callGetattribute;rcases expr with _|_<;>rfl
 rw[e]
 unfold boundAndCalled
 rw[Sj]
 refine AD (AJ (wpAny_call (codeAny_call_builtin Qb PySem.F.entry_bexc_ga (@check_slot (model prog w) _ _ _ "BaseException.__getattribute__" "BaseException" "__getattribute__" (.ref x) [.str name s.toks] [] _ Si Qa (sub.keeps fun zz zz e=>e) (PySem.F.args_bexc_ga (.ref x) (.str name s.toks)) ?_))))
 refine AD (AJ (AD (AJ (AD (I.type _ _ _ _ (fun zz zz e=>e) (AD (L3 _ _ _ _ (fun zz zz e=>e) (AJ ?_))))))))
 show wpAny _ _ (handedOut v) _ _ _
 rw[handedOut_of hh];exact AJ h
end
end
noncomputable def Zb (θ:Tp)(k:Nat)(n:Str):Prop:=(Ct θ.S k=false∧plainGet θ.K (θ.ac k) n=true)∨
 (Ct θ.S k=true∧findIn θ.K (.ref (θ.ac k)) "__getattribute__"=some (some (.builtin "BaseException.__getattribute__"))∧findIn θ.K (.ref (θ.ac k)) "__getattr__"=some none∧Gw θ.K (θ.ac k)=true)
noncomputable def Ss (θ:Tp)(k:Nat)(n:Str):CA→Prop
 | .free=>Zb θ k n∧Eu θ.K (θ.ac k)=true∧takerIn θ.K (θ.ac k) n=some none∧∃attr,findIn θ.K (.ref (θ.ac k)) n=some attr∧noGet θ.K attr=true
 | .fn f=>plainGet θ.K (θ.ac k) n=true∧findIn θ.K (.ref (θ.ac k)) n=some (some (.ref (θ.af f)))∧isFn θ.K (.ref (θ.af f))=true
 | .sta m=>plainGet θ.K (θ.ac k) n=true∧Eu θ.K (θ.ac k)=true∧findIn θ.K (.ref (θ.ac k)) n=some (some (.ref (θ.as m)))∧specialIn θ.K (.ref (θ.as m)) "__get__"=some none∧copiedNames.contains n=false
structure KG (θ:Tp):Prop where
 attr:∀k n ca,Ez θ.S k n=some ca→Ss θ k n ca
 set:∀k q,θ.S.cls k=some q→findIn θ.K (.ref (θ.ac k)) "__setattr__"=some (some (.builtin "object.__setattr__"))∧(Ct θ.S k=false→plainOver θ.K (θ.ac k)=true)
theorem OH {h:Heap}{x dx C:Addr}{ob od:Obj}(I:Qg ob C dx)(h1:h.get? x=some ob)(h2:h.get? dx=some od):InstAt h x ob C (some od):=⟨h1,I.1,I.2.2,by rw[I.2.1];exact h2⟩
theorem JJ {φ:Fm}{k:Kn}{st:St}{h:Heap}(R:Al φ k st h){i:Nat}{ob:O}{p:Nat×List (Str×V)}(e:st.heap[i]? =some ob)(hp:oI ob=some p){v:Value}(hv:Ag φ.tp k (.obj i) v){G:Prop}
  (K:∀d o1 dx es n p1 p2,Ge R i (.inst p.1 p.2) v d [(d.1,o1)] dx (dictOf es n) p1 p2→v= .ref d.1→F9 φ.tp k p.2 es→Qh φ.tp p.1 o1 dx→InstAt h d.1 o1 (φ.tp.ac p.1) (some (dictOf es n))→G):G:=by
 refine To hp fun q=>?_
 subst q
 refine R.turn e rfl hv fun d hd a ob p1 p2 T=>AR T.body.1 fun o1 b1 b2=>Dm T.body.2 fun es n h1 h2=>?_
 subst b1 h1
 exact K d o1 a es n p1 p2 T T.hv h2 b2 (OH b2.1 (R.N _ (T.mem (.head _))).1 (R.N _ T.at).1)
theorem Wc {φ:Fm}{k:Kn}{st:St}{h:Heap}(R:Al φ k st h){i c:Nat}(e:st.heap[i]? =some (.exc c)){v:Value}(hv:Ag φ.tp k (.obj i) v){G:Prop}
  (K:∀d ob,v= .ref d.1→h.get? d.1=some ob→(ob.cls= .ref (φ.tp.ac c)∧Ct φ.tp.S c=true)→ob.dict=none→(∃t,ob.data=K5 t)→
   (∀h' ob' D oD o',h'.get? d.1=some ob'→h'.get? D=some oD→h.objs.size≤D→(∀b o,b≠d.1→h.get? b=some o→h'.get? b=some o)→GP φ.tp k o' d [(d.1,ob')] D oD→Nonempty (Al φ k ⟨st.loc,st.heap.set i o'⟩ h'))→G):G:=by
 refine R.turn e rfl hv fun d hd a ob p1 p2 T=>?_
 have b1:=T.body.1
 have b2:=T.body.2.1
 subst b1 b2
 refine K d ob T.hv T.row.1 T.body.2.2.1 T.body.2.2.2.1 T.body.2.2.2.2 fun h' ob' D oD o' g1 g2 gD hk hb=>?_
 have up:D≠φ.env.locals∧φ.h₀.get? D=none:=by
  refine⟨fun z=>absurd (Am R.F.ns.lt gD) (by rw[z];exact CD _),?_⟩
  rcases e:φ.h₀.get? D with _|o
  ·rfl
  ·exact absurd (Am (B4 (R.F.keep _ o e)) gD) (CD _)
 have H:=T.hpR o' [(d.1,ob')] D oD hb
 have all:∀p,p∈(p1++(([(d.1,ob')]++[(D,oD)])++p2))++(φ.J++k.I)→p=(d.1,ob')∨p=(D,oD)∨(p∈R.MO++(φ.J++k.I)∧p.1≠d.1):=fun p hp=>by
  rw[T.all]
  have n1:=T.n1
  have n2:=T.n2
  simp only[AK,BB,AZ,Ac,BH,or_false] at hp n1 n2 ⊢
  rcases hp with(hp|(hp|hp)|hp)|hp
  ·exact .inr (.inr ⟨.inl hp,n1 p hp⟩)
  ·exact .inl hp
  ·exact .inr (.inl hp)
  ·exact .inr (.inr ⟨.inr (.inr (.inl hp)),n2 p (.inl hp)⟩)
  ·exact .inr (.inr ⟨.inr (.inr (.inr hp)),n2 p (.inr hp)⟩)
 refine⟨⟨R.m,_,⟨R.F.ns.at fun o e=>hk _ o (DS T.row.2.1) e,fun b o e=>hk b o (fun z=>by rw[z,T.row.2.2] at e;exact AU e) (R.F.keep b o e),R.F.above⟩,fun p hp=>?_,?_,R.loc,H⟩⟩
 ·exact(all p hp).elim (fun e=>by rw[e];exact⟨g1,T.row.2⟩) fun z=>z.elim (fun e=>by rw[e];exact⟨g2,up⟩) fun z=>⟨hk _ _ z.2 (R.N p z.1).1,(R.N p z.1).2⟩
 ·have pm:CK ((p1++(([(d.1,ob')]++[(D,oD)])++p2))++(φ.J++k.I)) ([(D,oD)]++((p1++([(d.1,ob')]++p2))++(φ.J++k.I))):=by
   simp only[AB]
   exact(DG p1 (BE [(d.1,ob')] [(D,oD)] _)).trans (BE p1 [(D,oD)] _)
  refine FR pm (Hp (FC ..) ?_ fun q hq p hp=>?_)
  ·have nd:=T.nd
   simp only[AK,Aa,An,AB,B0,Dr] at nd ⊢
   exact nd
  ·rw[Ac.mp hq]
   refine As (Am ?_ gD)
   have hp:p∈p1++([(d.1,ob')]++(p2++(φ.J++k.I))):=by simpa [AB] using hp
   refine(BB.mp hp).elim (fun z=>B4 (R.N p (by rw[T.all];simp[z])).1) fun z=>(AZ.mp z).elim (fun e=>by rw[e];exact B4 T.row.1) fun z=>B4 (R.N p (by rw[T.all];exact AX _ (.tail _ z))).1
section
variable {c:Cx}{k:Kn}
theorem KM {θ:Tp}{a:V}{v:Value}(h:Ag θ k a v)(hs:HO a=false):handedIn v=true:=by
 rcases a with _|_|⟨b⟩|⟨i⟩|⟨i⟩|_|⟨xs⟩|⟨xs,fs⟩|⟨i⟩|_|_|_|⟨a,b⟩|_
 case none=>rw[show v= .none from h];rfl
 case undef=>exact False.elim h
 case cref=>exact False.elim h
 case bool=>rw[show v= .bool b from h];rfl
 case int=>exact AA (show ∃t,v= .int i t from h) fun t q=>q▸rfl
 case str=>exact AA (show ∃t,v= .str i t from h) fun t q=>q▸rfl
 case txt=>exact AA h fun s h=>AA h fun t q=>q▸rfl
 case tup=>exact AA h fun a h=>AA h fun n h=>AA h fun vs h=>h.2.2▸rfl
 case rcd=>exact AA h fun a h=>AA h fun n h=>AA h fun vs h=>AA h fun vs h=>h.2.2.2▸rfl
 case obj=>exact AA h fun d h=>h.2▸rfl
 case rng=>exact AA h fun a h=>AA h fun n h=>AA h fun vs h=>AA h fun vs h=>h.2▸rfl
 all_goals exact(AS hs.symm).elim
theorem Ze {n:Str}{fs:List (Str×V)}{x:V}(e:VQ n fs=some x){G:Prop}(H:Co n fs=some x→HO x=false→G):G:=by
 refine AR (Af.mp e) fun z h1 h2=>?_
 rcases u:HO z with _|_
 ·rw[if_neg (by rw[u];exact AS)] at h2;exact E1 h2 fun q=>by subst q;exact H h1 u
 ·rw[if_pos u] at h2;exact AU h2
theorem PX (G:Good c)(CO:KG c.tp){st:St}{s:Shared}{K:V→St→Ay}{o:Except V V×List O}{Q:Value→Shared→Prop}{E:Value→Shared→Prop}{j:Nat}{n:Str}{ex:Bool}{fs:List (Str×V)}{es:List C8}{x:V}{a:Addr}{o1:Obj}{m:Nat}
  (R:Al c.fm k st s.heap)(hI:InstAt s.heap a o1 (c.ac j) (some (dictOf es m)))(hf:F9 c.tp k fs es)(ca:Ez c.S j n=some .free)(e:VQ n fs=some x)(P:Y c.l o (K x st))(HQ:FV c (CV c) k s K o Q):wpAny c.M c.A (getAttr (.ref a) n ex) Q E s:=by
 refine Ze e fun h1 h2=>?_
 have g:=CO.attr _ _ _ ca
 have z:=hf.look (n:=n)
 rw[h1] at z
 exact AR z fun v hv hc=>AR g.2.2.2 fun attr g1 g2=>g.1.elim (fun y=>get_own R.F G.X hI y.2 g.2.1 g1 g2 hv (KM hc h2) (HQ.now _ R hc P)) fun y=>
  Wq (G.X.keeps R.F.keep) hI y.2.1 y.2.2.1 y.2.2.2 (findObj_own g.2.1 g1 g2 hv) (KM hc h2) (HQ.now _ R hc P)
theorem Nz (G:Good c)(CO:KG c.tp){a:V}{x:Value}{n:Str}{ex:Bool}(ha:Ag c.tp k a x):AY c k (CV c) (getAttr x n ex) (KA c.S a n):=by
 rcases a with _|_|_|_|_|_|_|⟨j,fs⟩|⟨i⟩|_
 case rcd=>
  refine fun k₁ st s K X o Q E l R P HQ HE=>Bh P fun z e P=>?_
  refine D6 (ha.mono l) fun x' dx es n' h1 h2 h3 h4=>?_
  subst h4
  rcases ca:Ez c.S j n with _|q
  ·rw[ca] at e;exact AU e
  ·
   rw[ca] at e
   rcases q with _|_
   case free=>exact AR h1 fun ob g1 g2=>PX G CO R (OH g2 (R.bears _ g1) (R.bears _ h2)) h3 ca e P HQ
   all_goals exact AU e
 case obj=>
  refine .rd fun k' st s K X o Q E ob p l R e hp P HQ HE=>Bh P fun x₁ e1 P=>?_
  refine JJ R e hp (ha.mono l) fun d o1 dx es m p1 p2 T hv hf hO hI=>?_
  subst hv
  rcases ca:Ez c.S p.1 n with _|q
  ·rw[ca] at e1;exact AU e1
  ·
   rw[ca] at e1
   rcases q with _|_|⟨j⟩
   case free=>exact PX G CO R hI hf ca e1 P HQ
   case sta=>
    refine IJ e1 fun h1 h2=>?_
    have g:=CO.attr _ _ _ ca
    have z:=hf.look (n:=n)
    rw[Option.isNone_iff_eq_none.mp h1] at z
    exact get_cls R.F G.X hI g.1 g.2.1 g.2.2.1 g.2.2.2.1 rfl g.2.2.2.2 z (HQ.now (a:=x₁) _ R (E1 h2 fun q=>q▸rfl) P)
   all_goals exact AU e1
 all_goals exact .stuck
theorem OP {S:BD}{j:Nat}{n:Str}{q:CA}(ca:Ez S j n=some q):∃q,S.cls j=some q:=AR (Af.mp ca) fun q e1 zz=>⟨q,e1⟩
theorem OF {o:Option CA}(h:OG o=true):o=some .free:=by
 rcases o with _|q
 ·cases h
 ·rcases q with _|_<;>first|rfl|cases h
theorem KI (G:Good c)(CO:KG c.tp){a b:V}{x y:Value}{n:Str}(ha:Ag c.tp k a x)(hb:Ag c.tp k b y):AY c k CU (setAttr x n y) (Hn c.S a n b):=by
 refine .look fun i ea=>Fo ea fun q=>?_
 subst q
 refine .rd fun k' st s K X o Q E ob p l R e hp P HQ HE=>?_
 cases AG hp
 rcases ob with⟨j,fs⟩|_|_|_|_|_|⟨j⟩|_
 case inst=>
  refine GF P fun h P=>?_
  refine JJ (p:=(j,fs)) R e rfl (ha.mono l) fun d o1 dx es m p1 p2 T hv hf hO hI=>?_
  subst hv
  have h:=AP.mp h
  have hz:=Bg h.2
  have ca:=OF h.1
  have g:=CO.attr _ _ _ ca
  refine AA (OP ca) fun q hq=>?_
  have hl:(getL n es).isSome=true:=by
   have z:=hf.look (n:=n)
   revert z
   rcases Co n fs with _|w
   ·exact fun z=>by rw[show getL n es=some none from z];rfl
   ·exact fun z=>AR z fun v hv zz=>by rw[hv];rfl
  have hf':=hf.put (n:=n) (hb.mono l) (De c.w.params n) (s.toks+1)
  refine g.1.elim (fun gy=>?_) fun gy=>?_
  ·have U:=Nh (o:=dictOf es m) (o':=dictOf (putL n (De c.w.params n) (.str n (s.toks+1)) y es) (putN n es m)) T.n2 T.n1
   rw[←T.all] at U
   exact set_dict R.F G.X R.N hI hO.1.2.1 (CO.set _ _ hq).1 ((CO.set _ _ hq).2 gy.1) g.2.2.1 g.2.1 hl rfl U (by rw[←hf'.length];exact hz) fun h' F' N'=>HQ k' () () _ h' _ (.refl _) (T.put (o':=.inst j (put n b fs)) F' N' ⟨⟨o1,rfl,hO⟩,_,_,rfl,hf'⟩) trivial P
  ·exact Vl (G.X.keeps R.F.keep) hI hO.1.2.1 (CO.set _ _ hq).1 gy.2.2.2 g.2.2.1 g.2.1 hl (by rw[←hf'.length];exact hz) fun h' h1 h2=>HQ k' () () _ h' _ (.refl _) (T.but (o':=.inst j (put n b fs)) h1 h2 ⟨⟨o1,rfl,hO⟩,_,_,rfl,hf'⟩) trivial P
 case exc=>
  refine GF P fun h P=>Wc R e (ha.mono l) fun d ob hv ho hc hd ht H=>?_
  subst hv
  have ca:=OF h
  have g:=CO.attr _ _ _ ca
  refine AA (OP ca) fun q hq=>AA ht fun t ht=>?_
  have hI:InstAt s.heap d.1 ob (c.ac j) none:=⟨ho,hc.1,by unfold notCls;rw[ht];rfl,by rw[hd];trivial⟩
  refine g.1.elim (fun gy=>?_) fun gy=>?_
  ·exact absurd gy.1 (by rw[show Ct c.S j=true from hc.2];exact fun z=>nomatch z)
  ·refine Wp (G.X.keeps R.F.keep) hI hd (CO.set _ _ hq).1 gy.2.2.2 g.2.2.1 g.2.1 fun h' h1 h2 h3=>(H h' _ _ _ (.inst j [(n,b)]) h1 h2 (Ak _) h3 ⟨⟨_,rfl,⟨hc.1,rfl,by unfold notCls;rw[ht];rfl⟩,fun zz=>⟨t,ht⟩⟩,_,_,rfl,_,_,_,[],hb.mono l,rfl,rfl⟩).elim fun R'=>HQ k' () () _ h' _ (.refl _) R' trivial P
 all_goals exact P.elim
theorem Q0 (G:Good c)(CO:KG c.tp){st:St}{s:Shared}(R:Al c.fm k st s.heap){i j f:Nat}{fs:List (Str×V)}{n:Str}{x:Value}{pl:Sem Bool}(ha:Ag c.tp k (.obj i) x)(ho:st.heap[i]? =some (.inst j fs))
  (h1:Ez c.S j n=some (.fn f))(h2:Co n fs=none){Q:Value×List Value→Shared→Prop}{E:Value→Shared→Prop}(h:Q (.ref (c.af f),[x]) s):wpAny c.M c.A (getMethod x n pl) Q E s:=by
 refine JJ (p:=(j,fs)) R ho rfl ha fun d o1 dx es m p1 p2 T hv hf hO hI=>?_
 subst hv
 have g:=CO.attr _ _ _ h1
 have z:=hf.look (n:=n)
 rw[h2] at z
 exact method_inst R.F G.X hI g.1 g.2.1 g.2.2 z h
end
section
open PySem.NumText
noncomputable def Ji (cs:List Nat):Prop:=∀c∈cs,(EC c).isSome=true
theorem MH {c:Nat}(h:¬c<128):EC c=none:=by
 unfold EC
 rw[if_neg fun z=>h (Bk z.2 (by decide)),if_neg fun z=>h (Bk z.2 (by decide)),if_neg fun z=>h (Bk z.2 (by decide))]
theorem Hb {c x:Nat}(h:EC c=some x):(48≤c∧c≤57∨97≤c∧c≤102∨65≤c∧c≤70)∧x<16∧digit? c=some x:=by
 by_cases hc:c<128
 ·have q:=(by decide+kernel:∀c,c<128→(EC c).all (fun x=>decide ((48≤c∧c≤57∨97≤c∧c≤102∨65≤c∧c≤70)∧x<16∧digit? c=some x))=true) c hc
  rw[h] at q
  exact of_decide_eq_true q
 ·exact nomatch (MH hc).symm.trans h
theorem I7 {c:Nat}(h:(EC c).isSome=true):48≤c∧c≤102:=by
 obtain⟨x,hx⟩:=Bw.mp h
 exact(Hb hx).1.elim (fun z=>⟨z.1,AM z.2 (by decide)⟩) fun z=>z.elim (fun z=>⟨AM (by decide) z.1,z.2⟩) fun z=>⟨AM (by decide) z.1,AM z.2 (by decide)⟩
theorem Kb:∀{cs:List Nat} {a n:Nat},EB cs a=some n→Ji cs
 |[],_,_,_=>fun c hc=>by cases hc
 |c::cs,a,n,h=>by
  rw[S4] at h
  rcases e:EC c with _|x
  ·rw[e] at h;cases h
  ·
   rw[e] at h
   intro d hd
   rcases AZ.mp hd with rfl|hd
   ·rw[e];rfl
   ·exact Kb h d hd
theorem OQ:∀{cs:List Nat} {a n:Nat} {ds:Array Nat} (b:Bool),EB cs a=some n→ds.foldl (fun acc d=>acc * 16+d) 0=a→∃ds':Array Nat,cs.foldlM (NumText.step 16) (ds,b)=some (ds',b|| !cs.isEmpty)∧ds'.foldl (fun acc d=>acc * 16+d) 0=n
 |[],a,n,ds,b,h,e=>by
  cases h
  exact⟨ds,by simp,e⟩
 |c::cs,a,n,ds,b,h,e=>by
  rw[S4] at h
  rcases hx:EC c with _|x
  ·rw[hx] at h;cases h
  ·
   rw[hx] at h
   obtain⟨h1,h2,h3⟩:=Hb hx
   obtain⟨ds',h4,h5⟩:=OQ (ds:=ds.push x) true h (by rw[Array.foldl_push];simp[e])
   refine⟨ds',?_,h5⟩
   have hs:NumText.step 16 (ds,b) c=some (ds.push x,true):=by
    unfold NumText.step
    rw[if_neg (by rw[beq_iff_eq];lia),h3]
    exact if_pos h2
   rw[List.foldlM_cons,hs]
   show cs.foldlM (NumText.step 16) (ds.push x,true)=_
   rw[h4]
   simp
theorem QW {cs:List Nat}{n:Nat}(h:EB cs 0=some n)(hne:cs≠[]):∃ds:Array Nat,digits? 16 cs=some ds∧ds.foldl (fun acc d=>acc * 16+d) 0=n:=by
 obtain⟨ds,h1,h2⟩:=OQ (ds:= #[]) false h (by simp)
 refine⟨ds,?_,h2⟩
 unfold digits?
 rw[h1]
 rcases cs with _|_
 ·exact absurd rfl hne
 ·rfl
theorem N4 {cs:List Nat}(h:Ji cs):cs.dropWhile blank=cs:=by
 rcases cs with _|⟨c,cs⟩
 ·rfl
 ·
  have:=I7 (h c (.head _))
  exact dropWhile_of (by lia)
theorem Sk {cs:List Nat}(h:Ji cs):based 16 cs=(16,false,cs):=by
 have key:∀p,prefix? cs=some p→p≠16:=by
  intro p hp
  rcases cs with _|⟨a,cs⟩
  ·exact(FN _ hp.symm).elim
  ·
   by_cases ha:a=48
   ·
    subst ha
    rcases cs with _|⟨c,r⟩
    ·exact(FN _ hp.symm).elim
    obtain⟨x,hx⟩:=Bw.mp (h c (.tail _ (.head _)))
    have:=(Hb hx).1
    have hp:=(if_neg (by rw[Du,beq_iff_eq,beq_iff_eq];lia)).symm.trans hp
    by_cases h1:(c==111||c==79)=true
    ·rw[if_pos h1] at hp;rw[←AG hp];decide
    ·rw[if_neg h1] at hp
     by_cases h2:(c==98||c==66)=true
     ·rw[if_pos h2] at hp;rw[←AG hp];decide
     ·rw[if_neg h2] at hp;exact(FN _ hp.symm).elim
   ·exact(FN _ (hp.symm.trans (show prefix? (a::cs)=none by delta PySem.NumText.prefix? PySem.NumText.prefix?.match_1 PySem.NumText.prefix?._sparseCasesOn_1;exact dif_neg ha))).elim
 unfold based
 rcases hp:prefix? cs with _|p
 ·rfl
 ·exact if_neg fun z=>(key p hp (eq_of_beq z).symm)
theorem Tj {cs:List Nat}{n:Nat}(h:EB cs 0=some n)(hne:cs≠[]):(int_private% "readNumeral") 0 16 cs=(int_private% "Numeral.value") (n:Int):=by
 have ha:=Kb h
 obtain⟨ds,h1,h2⟩:=QW h hne
 have hs:sign cs=(false,cs):=by
  rcases cs with _|⟨c,cs⟩
  ·rfl
  ·
   have:=I7 (ha c (.head _))
   exact sign_of (by lia) (by lia)
 have hr:Ji cs.reverse:=fun c hc=>ha c (List.mem_reverse.mp hc)
 refine(readNumeral_eq 0 16 cs).trans ?_
 rw[N4 ha,hs]
 dsimp only
 rw[Sk ha]
 dsimp only
 rw[N4 hr,F6,h1]
 unfold judge
 simp only[h2]
 simp
theorem Ws {M:Model}{A:Around}{E:Value→Shared→Prop}{s:Shared}{Q:Value→Shared→Prop}{v:Value}{text:List Nat}{n:Int}
  (hs:(text.takeWhile (· != 0)).length≤640)(hr:(int_private% "readNumeral") 0 16 (text.takeWhile (· != 0))=(int_private% "Numeral.value") n)
  (ha:((text.takeWhile (· != 0)).length==text.length)=true)(h:Q (.int n s.toks) {s with toks:=s.toks+1}):
  wpAny M A ((int_private% "intFromText") v text 16) Q E s:=by
 refine wpAny_ite_true (decide_eq_true hs) ?_
 refine AD (AJ ?_)
 dsimp -zeta only
 generalize (int_private% "readNumeral") 0 16 (text.takeWhile (· != 0))=r at hr
 subst hr
 refine wpAny_ite_true (decide_eq_true ha) ?_
 exact wpAny_mkInt h
theorem U5 {x:PySem.Str}(h:Ji x.cps.toList):numTextOf x=x.cps.toList∧numSeenOf x=x.cps.toList:=by
 have e1:numTextOf x=x.cps.toList:=by
  refine if_pos ?_
  rw[←Array.all_toList,B1]
  intro c hc
  have:=I7 (h c hc)
  exact decide_eq_true (by lia)
 refine⟨e1,?_⟩
 show(numTextOf x).takeWhile _=_
 rw[e1]
 refine takeWhile_all fun c hc=>?_
 have:=I7 (h c hc)
 exact bne_iff_ne.mpr (by lia)
set_option maxHeartbeats 4000000 in
theorem S9 {x:PySem.Str}{u t:Tok}{n:Nat}(hl:x.cps.size≤640)(hne:0<x.cps.size)(hn:EB x.cps.toList 0=some n):Gives (DI.«int.__new__» ⟨[.type "int",.str x u,.int 16 t],[]⟩) (.int (n:Int)):=
 .of_wp fun M A E s Q h=>by
  refine AD (m:=isType _) (Dh (a:=true) rfl ?_)
  refine AD (Dh F.conv_sub_int ?_)
  refine AD (Dh F.madeHere_int ?_)
  refine AD (AJ ?_)
  refine AD (AD ?_)
  refine AD (AJ ?_)
  refine AJ ?_
  refine AD (AJ ?_)
  refine AJ ?_
  refine AD (AD (AJ ?_))
  refine AJ ?_
  obtain⟨e1,e2⟩:=U5 (Kb hn)
  refine AD (Ws (text:=numTextOf x) (n:=n) ?_ ?_ ?_ (AJ ⟨_,rfl,h⟩))
  ·show(numSeenOf x).length≤640
   rw[e2,Da];exact hl
  ·show(int_private% "readNumeral") 0 16 (numSeenOf x)=_
   rw[e2];exact Tj hn (fun z=>by rw[←Da,z] at hne;cases hne)
  ·show((numSeenOf x).length==(numTextOf x).length)=true
   rw[e1,e2];exact beq_self_eq_true _
theorem Ls (a b:Value):checkTypeCall "int" ⟨[a,b],[]⟩=pure ():=by kernel_rfl
theorem NF (a b:Value):checkBuiltinCall "int.__new__" ⟨[.type "int",a,b],[]⟩=pure ():=by kernel_rfl
theorem UZ {prog:C0}{w:World}{A:Around}{E:Value→Shared→Prop}{s:Shared}{Q:Value→Shared→Prop}{x:PySem.Str}{u t:Tok}{n:Nat}(hl:x.cps.size≤640)(hne:0<x.cps.size)(hn:EB x.cps.toList 0=some n)
  (h:Q (.int (n:Int) s.toks) {s with toks:=s.toks+1}):wpAny (model prog w) A (call (.type "int") [.str x u,.int 16 t]) Q E s:=
 callType_new F.called_int F.newNe_int (Ls _ _) (NF _ _) (fun obj=>F.args_object_init_3 obj _ _) F.entry_int_new (S9 hl hne hn).meets (show(Made.int (n:Int)).post _ s from⟨rfl,h⟩)
end
section
variable {θ:Tp}{k:Kn}
theorem Xe {q:Int}{x:V}{v:Value}(hx:Ag θ k x v){es:List (V×V)}:∀{kvs:List (Int×Value)} {r:List (V×V)},Kv V.int θ k es kvs→(kvs.map (·.1)).Nodup→OY q x es=some r→Kv V.int θ k r (stored kvs q v):=by
 induction es with
 |nil=>exact fun h zz e=>by rw[show _=[] from h,←AG e];exact⟨q,v,[],rfl,hx,rfl,rfl⟩
 |cons p es ih=>
  intro kvs r h hn e
  refine Em h fun j w us h1 h2 h3 h4=>?_
  subst h4
  have e:((DJ p.1).bind fun j=>if j=q then some ((p.1,x)::es) else(OY q x es).map ((p.1,p.2)::·))=some r:=e
  rw[h1] at e
  have e':(if j=q then some ((V.int j,x)::es) else(OY q x es).map ((V.int j,p.2)::·))=some r:=e
  clear e
  rw[An,C4] at hn
  by_cases z:j=q
  ·rw[if_pos z] at e'
   subst z
   rw[←AG e',show stored ((j,w)::us) j v=(j,v)::us by
    unfold stored
    rw[if_pos (by simp),An]
    simp only[if_true]
    congr 1
    refine(EL fun p hp=>?_).trans (List.map_id' us)
    rw[if_neg]
    exact fun e=>hn.1 (Bq.mpr ⟨p,hp,e⟩)]
   exact⟨j,v,us,rfl,hx,h3,rfl⟩
  ·rw[if_neg z] at e'
   refine AR (Ar.mp e') fun r' e1 e2=>?_
   subst e2
   rw[show stored ((j,w)::us) q v=(j,w)::stored us q v by
    unfold stored
    rw[List.any_cons,decide_eq_false (show ¬(j,w).1=q from z),Bool.false_or]
    split
    ·rw[An,if_neg (show ¬(j,w).1=q from z)]
    ·rfl]
   exact⟨j,w,_,rfl,h2,ih h3 hn.2 e1,rfl⟩
theorem Xg {q:Int}{es:List (V×V)}:∀{kvs:List (Int×Value)} {r:List (V×V)},Kv V.int θ k es kvs→(kvs.map (·.1)).Nodup→Ob q es=some r→Kv V.int θ k r (without kvs q)∧(valueAt kvs q).isSome=true:=by
 induction es with
 |nil=>exact fun zz zz e=>AU e
 |cons p es ih=>
  intro kvs r h hn e
  refine Em h fun j w us h1 h2 h3 h4=>?_
  subst h4
  have e:((DJ p.1).bind fun j=>if j=q then some es else(Ob q es).map ((p.1,p.2)::·))=some r:=e
  rw[h1] at e
  have e':(if j=q then some es else(Ob q es).map ((V.int j,p.2)::·))=some r:=e
  clear e
  rw[An,C4] at hn
  by_cases z:j=q
  ·rw[if_pos z] at e'
   subst z
   rw[←AG e',show without ((j,w)::us) j=us by
    have:=without_of_not_mem us j hn.1
    unfold without at this ⊢
    rw[List.filter_cons_of_neg (by simp),this]]
   exact⟨h3,by simp[valueAt]⟩
  ·rw[if_neg z] at e'
   refine AR (Ar.mp e') fun r' e1 e2=>?_
   subst e2
   have i:=ih h3 hn.2 e1
   unfold without valueAt
   rw[List.filter_cons_of_pos (by simpa using z),List.find?_cons_of_neg (by simpa using z)]
   exact⟨⟨j,w,_,rfl,h2,i.1,rfl⟩,i.2⟩
theorem Xf {f:Int→V}{es:List (V×V)}:∀{kvs:List (Int×Value)} {j:Nat} {p:V×V} {q:Int} {x:Value},Kv f θ k es kvs→es[j]? =some p→kvs[j]? =some (q,x)→p.1=f q:=by
 induction es with
 |nil=>exact fun zz e zz=>AU e
 |cons p es ih=>
  intro kvs j p' q x h e e'
  refine Em h fun i w us h1 h2 h3 h4=>?_
  subst h4
  rcases j with _|j
  ·rw[←AG e,h1,(Prod.mk.inj (AG e')).1]
  ·exact ih h3 e e'
theorem Kv.length {K:Type}{f:K→V}{es:List (V×V)}:∀{kvs:List (K×Value)},Kv f θ k es kvs→es.length=kvs.length:=by
 induction es with
 |nil=>exact fun h=>by rw[show _=[] from h];rfl
 |cons p es ih=>exact fun h=>Em h fun j w us zz zz h3 h4=>by rw[h4,AQ,AQ,ih h3]
end
section
variable {c:Cx}{k:Kn}
theorem LU {K:Type}[DecidableEq K]{knd:KeyKind c.prog c.w K}{h:Heap}{a:Addr}{kvs:List (K×Value)}(hd:h.DictOf knd a kvs):(kvs.map (·.1)).Nodup:=AA hd fun zz h=>AA h fun zz h=>AA h fun zz h=>h.2.2.2.2.2
theorem O7 {φ:Fm}{st:St}{h:Heap}(R:Al φ k st h){i:Nat}{ob:O}{es:List (V×V)}(e:st.heap[i]? =some ob)(hp:oD ob=some es){v:Value}(hv:Ag φ.tp k (.obj i) v){G:Prop}
  (K:∀a kvs,v= .ref a→(a==Cp)=false→Kv V.int φ.tp k es kvs→h.DictOf (Dp φ.tp.prog φ.tp.w) a kvs→(∀es' kvs' h',Kv V.int φ.tp k es' kvs'→h'.DictOf (Dp φ.tp.prog φ.tp.w) a kvs'→Bd a h h'→Nonempty (Al φ k ⟨st.loc,st.heap.set i (.dict es')⟩ h'))→G):G:=by
 refine au hp fun q=>?_
 subst q
 refine R.turn e rfl hv fun d hd a ob p1 p2 T=>AR T.body.2.2.2 fun kvs h1 h2=>?_
 have b2:=T.body.2.1
 subst b2
 exact K d.1 kvs T.hv T.body.2.2.1 h2 (Dt.mpr ⟨ob,T.row.1,h1⟩) fun es' kvs' h' k1 k2 k3=>AR (Dt.mp k2) fun o' g1 g2=>⟨T.but k3 g1 ⟨T.body.1,rfl,T.body.2.2.1,kvs',g2,k1⟩⟩
theorem Op {a b:V}{x y:Value}(ha:Ag c.tp k a x)(hb:Ag c.tp k b y):AY c k CU (delItem x y) (Oa a b):=by
 refine .look fun i ea=>Fo ea fun q=>.look fun j eb=>Fp eb fun q'=>?_
 subst q q'
 refine AA (show ∃t,y= .int j t from hb) fun t q=>?_
 subst q
 refine .rd fun k' st s K X o Q E ob es l R e hp P HQ HE=>Ef P fun hl P=>Di (u:=.ents) P fun(r:List (V×V)) hr P=>?_
 refine O7 R e hp (ha.mono l) fun a kvs hv zz h1 h2 H=>?_
 subst hv
 have h3:=Xg h1 (LU h2) hr
 unfold delItem
 try with_reducible refine BA ?_
 refine AD (wpAny_sequenceKey h2.typeIs (by decide) (AD (wpAny_callSpecial?_slot (name:=A8 "__delitem__") h2.typeIs PySem.F.slot_dict_delitem
  (call_meetsIn PySem.F.slot_dict_delitem h2.typeIs PySem.F.entry_dict_delitem (PySem.F.args_dict_delitem_2 _ _) (meets_dict_delitem_pairs _ a (intKind_is ..)) ⟨kvs,h2,(by rw[←h1.length];exact AM hl Cv),h3.2,fun h' hd hs=>?_⟩))))
 exact AJ ((H r _ h' h3.1 hd hs).elim fun R'=>HQ k' () () _ h' _ (.refl _) R' trivial P)
theorem O6 {φ:Fm}{st:St}{h:Heap}(R:Al φ k st h){i:Nat}{ob:O}{xs:List V}(e:st.heap[i]? =some ob)(hp:oL ob=some xs){v:Value}(hv:Ag φ.tp k (.obj i) v){G:Prop}
  (K:∀a ws n p1 p2 d,v= .ref a→Ge R i (.list xs) v d [] a (listOf (AE ws) n) p1 p2→Ap φ.tp k xs ws→(∀xs' ws' n' h',Ap φ.tp k xs' ws'→Fr φ.h₀ φ.env.locals h' R.m→News φ.h₀ φ.env.locals h' ((p1++[])++(a,listOf (AE ws') n')::(p2++(φ.J++k.I)))→Nonempty (Al φ k ⟨st.loc,st.heap.set i (.list xs')⟩ h'))→G):G:=by
 refine Tn hp fun q=>?_
 subst q
 refine R.turn e rfl hv fun d hd a ob p1 p2 T=>Dm T.body.2.2 fun ws n h1 h2=>?_
 have b1:=T.body.1
 have b2:=T.body.2.1
 subst b1 h1
 exact K a ws n p1 p2 d (b2▸T.hv) T h2 fun xs' ws' n' h' c1 F' N'=>⟨T.put F' N' ⟨rfl,b2,ws',n',rfl,c1⟩⟩
theorem Oo {a b z:V}{x y v:Value}(ha:Ag c.tp k a x)(hb:Ag c.tp k b y)(hz:Ag c.tp k z v):AY c k CU (setItem x y v) (KV a b z):=by
 refine .look fun i ea=>Fo ea fun q=>.look fun j eb=>Fp eb fun q'=>?_
 subst q q'
 refine AA (show ∃t,y= .int j t from hb) fun t q=>?_
 subst q
 refine .rd fun k' st s K X o Q E ob p l R e hp P HQ HE=>?_
 cases AG hp
 rcases ob with _|⟨xs⟩|⟨es⟩|_
 case dict=>
  refine Ef P fun hl P=>Di (u:=.ents) P fun(r:List (V×V)) hr P=>?_
  exact O7 R e rfl (ha.mono l) fun a kvs hv zz h1 h2 H=>hv▸wpAny_setItem_pairs (intKind_is ..) h2 (fun h' hd hs=>(H r _ h' (Xe (hz.mono l) h1 (LU h2) hr) hd hs).elim fun R'=>HQ k' () () _ h' _ (.refl _) R' trivial P) (by rw[←h1.length];exact AM hl Cv)
 case list=>
  refine Di (u:=.nat) P fun(n:Nat) hn P=>O6 R e rfl (ha.mono l) fun a ws m p1 p2 d hv T hc H=>?_
  subst hv
  have h:=LH hn
  have hq:=hc.length
  have hs:=Au (as:=ws)
  have ho:s.heap.get? a=some (listOf ws.toArray m):=T.row.1
  have fin:∀f:Array Value→Array Value,f ws.toArray=(ws.set n v).toArray→Q () {s with heap:=s.heap.update a (Obj.mapSeq f)}:=fun f hf=>by
   refine(H (xs.set n z) (ws.set n v) m _ (hc.set n (hz.mono l)) (VP R.F T.row.2.1 T.row.2.2 (Bd.update ..)) ?_).elim fun R'=>HQ k' () () _ _ s.toks (.refl _) R' trivial P
   have N:=T.N
   refine ki_turn f N (fun p hp=>T.n1 p hp) T.n2 hf ?_
   simp
  refine h.2.2.elim (fun y=>?_) fun y=>?_
  ·exact ki_setAt ho y.1 (HA h).2 (by rw[hs,←hq];exact((OJ h).2 (Fv.mpr y.1)).2) (fin _ (by rw[←y.2];simp))
  ·exact ki_setBack ho y.1 (by rw[hs,←hq];exact Int.neg_le_of_neg_le y.2.1) (HA h).1 (fin _ (by rw[hs,←hq,←y.2.2];simp))
 all_goals exact P.elim
theorem RE {n:String}{i:Nat}{x:Value}{xs:List V}{vs:List Value}(ha:Ag c.tp k (.obj i) x)(hs:Ap c.tp k xs vs):AY c k (CV c) (call (.builtin n) (x::vs)) (VE n i xs):=by
 rcases xs with _|⟨v,xs⟩
 ·
  rw[show vs=[] from hs]
  refine .gp fun e=>?_
  subst e
  refine .rd fun k' st s K X o Q E ob ys l R e hp P HQ HE=>Ef P fun hl P=>Di (u:=.val) P fun(z:V) hz P=>O6 R e hp (ha.mono l) fun a ws m p1 p2 d hv T hc H=>?_
  subst hv
  refine BJ (hc.last hz) fun ps u e1 e2 e3=>?_
  have U:=Nh (o:=listOf (AE ws) m) (o':=listOf ps.toArray (m+1)) T.n2 T.n1
  refine kl_pop (its:=ws.toArray) (p:=ps) (y:=u) R.F T.N (by simpa using e3) U ?_ fun h' F' N'=>(H ys.dropLast ps (m+1) h' e1 F' N').elim fun R'=>HQ k' z u _ h' s.toks (.refl _) R' e2 P
  show ws.length≤_
  rw[←hc.length];exact AM hl Cv
 cases xs with
 |cons=>exact .stuck
 |nil=>
 refine BJ hs fun w us hw hu e=>?_
 cases (show us=[] from hu)
 subst e
 refine .rd fun k' st s K X o Q E ob ys l R e hp P HQ HE=>?_
 have hw:=hw.mono l
 refine O6 R e hp (ha.mono l) fun a ws m p1 p2 d hv T hc H=>?_
 subst hv
 have hlen:=hc.length
 have U:=fun o'=>Nh (o:=listOf (AE ws) m) (o':=o') T.n2 T.n1
 have done:∀xs' ws' n' h',Ap c.tp k' xs' ws'→Fr c.h₀ c.env.locals h' R.m→News c.h₀ c.env.locals h' ((p1++[])++(a,listOf (AE ws') n')::(p2++(c.J++k'.I)))→∀y z,Ag c.tp k' y z→Y c.l o (K y ⟨st.loc,st.heap.set i (.list xs')⟩)→Q z {s with heap:=h'}:=
  fun xs' ws' n' h' c1 F' N' y z hz P=>(H xs' ws' n' h' c1 F' N').elim fun R'=>HQ k' y z _ h' s.toks (.refl _) R' hz P
 by_cases h1:n="list.append"
 ·subst h1
  have P:Y c.l o (req (BF ys.length) ((Gu i (.list (ys++[v]))).bind fun zz=>.pure V.none) st K X):=P
  refine Ef P fun hl P=>append_K R.F T.N (U _) (fun h' F' N'=>?_) (by rw[Au,←hlen];exact AM hl Cv)
  exact done (ys++[v]) (ws++[w]) _ h' ((Ap.one hw).append hc) F' (by simpa using N') .none _ rfl P
 rw[if_neg h1] at P
 by_cases h2:n="list.extend"
 ·subst h2
  have P:Y c.l o (((B2 (GS v)).bind fun j=>req (decide (j≠i)) ((rd oL j).bind fun zs=>req (BF (ys.length+zs.length)) ((Gu i (.list (ys++zs))).bind fun zz=>.pure V.none))) st K X):=P
  refine Bh P fun j ej P=>Jn P fun hj P=>JH P fun ob₂ zs e2 hp2 P=>Ef P fun hl P9=>Fo ej fun q=>?_
  subst q
  refine R.list e2 hp2 hw fun l₂ us k₂ hv2 hm₂ hs₂ hL₂=>?_
  subst hv2
  rw[T.all] at hm₂
  have hlen₂:=hs₂.length
  have hd:¬(!ws.toArray.isEmpty&&DI.List.listTooLong (ws.toArray.size+us.toArray.size))=true:=by
   unfold DI.List.listTooLong
   have q:¬(ws.toArray.size+us.toArray.size>CM):=by
    rw[Au,Au,←hlen,←hlen₂]
    exact Fs.mpr (AM hl Cv)
   rw[decide_eq_false q,Bool.and_false]
   exact AS
  have hz1:ws.toArray.toList.length≤CM:=by
   show ws.length≤_
   rw[←hlen];exact AM (AM (BM _ _) hl) Cv
  have hz2:ws.toArray.size+us.toArray.size≤CM+1:=by
   rw[Au,Au,←hlen,←hlen₂]
   exact AM hl (AM Cv (BM _ _))
  have fin:=fun h' n' F' N'=>done (ys++zs) (ws++us) n' h' (hs₂.append hc) F' N' .none .none rfl P9
  rcases us with _|⟨u,us⟩
  ·exact kxn_extend (its:=ws.toArray) (its2:= #[]) R.F T.N hm₂ rfl (U _) hd hz1 hz2 fun h' F' N'=>fin h' m F' (by simpa using N')
  ·exact kl_extend (its:=ws.toArray) (its2:=(u::us).toArray) R.F T.N hm₂ rfl (by simp) (U _) hd hz1 hz2 fun h' F' N'=>fin h' _ F' (by simpa using N')
 rw[if_neg h2] at P
 by_cases h3:n="list.pop"
 ·subst h3
  have P:Y c.l o (((B2 (DJ v)).bind fun k=>req (decide (k=0)&&BF ys.length) ((dyn .val ys.head?).bind fun v=>(Gu i (.list ys.tail)).bind fun zz=>.pure v)) st K X):=P
  refine Bh P fun j ej P=>Jn P fun hj P=>Di (u:=.val) P fun(z:V) hz P9=>Fp ej fun q=>?_
  have hj:=AP.mp hj
  subst q
  have hj0:=of_decide_eq_true hj.1
  subst hj0
  refine AA (show ∃t,w= .int 0 t from hw) fun t q=>?_
  subst q
  rcases ys with _|⟨y,ys⟩
  ·exact AU hz
  ·
   refine BJ hc fun w ws' h4 h5 e=>?_
   subst e
   refine kl_popAt (its:=(w::ws').toArray) (k:=0) (p:=[]) (q:=ws') R.F T.N (by decide) (by simp[seqIndex?]) rfl (U _) ?_ fun h' F' N'=>done ys ws' _ h' h5 F' N' z w (AG hz▸h4) P9
   show(w::ws').length≤_
   rw[←hlen];exact AM (Bg hj.2) Cv
 ·rw[if_neg h3] at P;exact P.elim
theorem Ri {st:St}{s:Shared}(R:Al c.fm k st s.heap){i:Nat}{xs:List V}{n:Str}{bid:String}{x:Value}(ha:Ag c.tp k (.obj i) x)(ho:st.heap[i]? =some (.list xs))(hn:Tt n=some bid)
  {K:Value×List Value→Shared→Prop}{E:Value→Shared→Prop}{pl:Sem Bool}(h:K (.builtin bid,[x]) s):wpAny c.M c.A (getMethod x n pl) K E s:=by
 refine R.list ho rfl ha fun l ws m hv hm hc hL=>?_
 subst hv
 unfold Tt at hn
 by_cases e:n=("append":Str)
 ·rw[if_pos e] at hn;cases hn;subst e;exact kl_method R.N hm PySem.F.slot_list_append PySem.F.type_list_append h
 rw[if_neg e] at hn
 by_cases e:n=("extend":Str)
 ·rw[if_pos e] at hn;cases hn;subst e;exact kl_method R.N hm PySem.F.slot_list_extend PySem.F.type_list_extend h
 rw[if_neg e] at hn
 by_cases e:n=("pop":Str)
 ·rw[if_pos e] at hn;cases hn;subst e;exact kl_method R.N hm PySem.F.slot_list_pop PySem.F.type_list_pop h
 ·rw[if_neg e] at hn;exact AU hn
end
structure Nc (θ:Tp):Prop where
 yes:∀j q,θ.S.cls j=some q→isIn θ.K (.ref (θ.ac j)) (θ.ac j)=true
 no:∀j k,j≠k→(θ.S.cls j).isSome=true→(θ.S.cls k).isSome=true→kin_not θ.K (θ.ac j) (θ.ac k)=true
 obj:∀j q,θ.S.cls j=some q→Ct θ.S j=false→plainGet θ.K (θ.ac j) "__class__"=true∧Eu θ.K (θ.ac j)=true∧findIn θ.K (.ref (θ.ac j)) "__class__"=some (some (.builtin "object.__class__"))∧mroIn θ.K (θ.ac j) (.type "object")=some true
 get:specialIn θ.K (.builtin "object.__class__") "__get__"=some (some (.builtin "getset_descriptor.__get__"))∧takesIn θ.K (.builtin "object.__class__")=some true
section
variable {c:Cx}{k:Kn}
theorem IZ {θ:Tp}{a:V}{vs:List Value}(h:Ap θ k [a] vs){P:List Value→Prop}(H:∀v,Ag θ k a v→P [v]):P vs:=BJ h fun v us h1 h2 h3=>by rw[h3,show us=[] from h2];exact H v h1
theorem SZ {θ:Tp}{a b:V}{vs:List Value}(h:Ap θ k [a,b] vs){P:List Value→Prop}(H:∀v w,Ag θ k a v→Ag θ k b w→P [v,w]):P vs:=BJ h fun v us h1 h2 h3=>by rw[h3];exact IZ (P:=fun us=>P (v::us)) h2 fun w h4=>H v w h1 h4
theorem W0 (G:Good c)(IO:Nc c.tp){a b:V}{x y:Value}(ha:Ag c.tp k a x)(hb:Ag c.tp k b y):AY c k (CV c) (call (.builtin "isinstance") [x,y]) (Xi c.S a b):=by
 rcases b with _|_|_|_|_|_|_|_|_|_|⟨m⟩|_|_|_|⟨n⟩|_
 case cls=>
  rcases a with _|_|_|_|_|_|_|⟨j,fs⟩|_
  case rcd=>
   rw[show y= .ref (c.ac m) from hb]
   refine .chk fun hk=>fun k₁ st s K X o Q E l R P HQ HE=>?_
   have hk:=AP.mp hk
   have hk2:=AP.mp hk.2
   have hx:Ct c.S j=false:=by simpa using hk2.2
   have X:=G.X.keeps R.F.keep
   refine D6 (ha.mono l) fun x' dx es n' h1 h2 h3 h4=>?_
   subst h4
   refine AR h1 fun ob g1 g2=>?_
   have I:InstAt s.heap x' ob (c.ac j) (some (dictOf es n')):=OH g2 (R.bears _ g1) (R.bears _ h2)
   refine AA (Bw.mp hk2.1) fun q hq=>?_
   by_cases e:j=m
   ·subst e
    rw[decide_eq_true rfl] at P
    exact isi_call (t:=.ref (c.ac j)) X (fun M=>I.type) (IO.yes _ _ hq) (fun z=>nomatch z) (HQ.now s.toks R (.bool true) P)
   ·rw[decide_eq_false e] at P
    have g:=IO.obj _ _ hq hx
    exact kin_callC X I (IO.no _ _ e hk2.1 hk.1) g.1 g.2.1 g.2.2.1 IO.get.1 IO.get.2 g.2.2.2 (HQ.now _ R (.bool false) P)
  all_goals exact .stuck
 case ty=>
  rcases a with _|_|_|_|⟨t⟩|_
  case str=>
   rw[show y= .type n from hb]
   refine AA (show ∃u,x= .str t u from ha) fun u q=>?_
   subst q
   exact .gp fun e=>by subst e;exact .still fun zz s zz zz zz h=>PySem.IsiPair.str_str (h s.toks _ rfl)
  all_goals exact .stuck
 all_goals rcases a with _|_<;>exact .stuck
theorem R8 {θ:Tp}{xs:List V}:∀{vs:List Value} {l:List Str},Ap θ k xs vs→Lu xs=some l→StrsAre vs l:=by
 induction xs with
 |nil=>exact fun h e=>by rw[show _=[] from h,←AG e];exact .nil
 |cons x xs ih=>
  refine fun h e=>BJ h fun v us h1 h2 h3=>AR (Af.mp e) fun t e1 e2=>AR (Ar.mp e2) fun l' e3 e4=>F3 e1 fun q=>?_
  subst q e4
  exact AA (show ∃u,v= .str t u from h1) fun u q=>by rw[h3,q];exact .cons _ _ (ih h2 e3)
theorem TN {t:Str}{u:Tok}{xs:List V}{vs:List Value}(hs:Ap c.tp k xs vs):AY c k (CV c) (call (.builtin "str.join") (.str t u::vs)) (NO t xs):=by
 rcases xs with _|⟨a,xs⟩
 ·exact .stuck
 cases xs with
 |cons=>exact .stuck
 |nil=>
 refine IZ (P:=fun vs=>AY c k (CV c) (call (.builtin "str.join") (.str t u::vs)) (NO t [a])) hs fun v hv=>.look fun i ei=>Fo ei fun q=>?_
 subst q
 refine .rd fun k' st s K X o Q E ob ys l R e hp P HQ HE=>Di (u:=.strs) P fun(l':List Str) hl P=>Ef P fun hz P=>R.list e hp (hv.mono l) fun a vs n q zz hc hL=>?_
 subst q
 refine join_list hL (by simpa using R8 hc hl) ?_ fun t' tk=>?_
 ·rw[show l'.length * t.length=t.cps.size * l'.length from Nat.mul_comm _ _]
  exact AM hz (by unfold lim;decide)
 ·rw[show Txt.join t l'=DB t l' from StrLaws.glued_eq_join t l'];exact HQ.now _ R (.str _ _) P
theorem Vz (G:Good c)(SO:Gg c.tp){a:V}{x:Value}(ha:Ag c.tp k a x):AY c k (CV c) (call (.builtin "len") [x]) (Tu c.S a):=by
 unfold Tu
 rcases ea:D7 a with _|t
 ·
  refine AY.obj G SO ha fun k' st s K X o Q E ob l R S P HQ HE=>?_
  rcases ob with _|⟨xs⟩|_
  case list=>
   refine Ef P fun hl P=>AR S fun d hd S=>AR S fun vs h1 h2=>?_
   have hq:=h1.length
   subst hd
   refine call_len_list h2 (by rw[Au,←hq];have hl:_≤1000000:=hl;lia) ?_
   rw[Au,←hq]
   exact HQ.now _ R (.int _ _) P
  all_goals exact P.elim
 ·
  refine .size fun hl=>F3 ea fun q=>?_
  subst q
  refine AA (show ∃u,x= .str t u from ha) fun u q=>?_
  subst q
  refine .still fun zz s zz zz zz h=>PySem.P.len_str (fun hq=>?_) (h _ _ ⟨_,rfl⟩)
  have hl:Str.length _≤1000000:=hl
  have hq:=Int.ofNat_le.mp (show((2 ^ 63:Nat):Int)≤_ from hq)
  lia
theorem Ub {θ:Tp}{xs:List V}:∀{vs:List Value} {r:Bool},Ap θ k xs vs→Km xs=some r→∃bs,LSm.BoolsAre vs bs∧bs.all id=r:=by
 induction xs with
 |nil=>exact fun h e=>by rw[show _=[] from h];exact⟨[],.nil,AG e⟩
 |cons x xs ih=>
  intro vs r h e
  refine BJ h fun v us h1 h2 h3=>AR (Af.mp e) fun b e1 e2=>AR (Ar.mp e2) fun r' e3 e4=>Qe e1 fun q=>?_
  subst h3 e4 q
  rw[show v= .bool b from h1]
  exact AR (ih h2 e3) fun bs g1 g2=>⟨b::bs,.cons b g1,by rw[DW,g2];rfl⟩
theorem W8 (hh:c.A.handled=none){a:V}{x:Value}(ha:Ag c.tp k a x):AY c k (CV c) (call (.builtin "all") [x]) (Ye a):=by
 refine .look fun i ei=>Fo ei fun q=>?_
 subst q
 refine .rd fun k' st s K X o Q E ob ys l R e hp P HQ HE=>Ef P fun hz P=>Di (u:=.bool) P fun(r:Bool) hr P=>R.list e hp (ha.mono l) fun a vs n q zz hc hL=>?_
 subst q
 refine AR (Ub hc hr) fun bs g1 g2=>LSm.all_bools R.F R.N hh hL g1 fun h' tk F' N'=>?_
 rw[g2]
 exact HQ k' (.bool r) _ st h' tk (.refl _) (R.same F' N') (.bool r) P
theorem XD (G:Good c)(hh:c.A.handled=none)(IO:Nc c.tp)(SO:Gg c.tp){n:String}{xs:List V}{vs:List Value}(hs:Ap c.tp k xs vs):AY c k (CV c) (call (.builtin n) vs) (Va c.S n xs):=by
 rcases xs with _|⟨a,xs⟩
 ·exact .stuck
 rcases xs with _|⟨b,xs⟩
 ·
  refine IZ (P:=fun vs=>AY c k (CV c) (call (.builtin n) vs) (Va c.S n [a])) hs fun v hv=>.ifp (fun e=>e▸Vz G SO hv) fun zz=>.ifp (fun e=>?_) fun zz=>.gp fun e=>e▸W8 hh hv
  subst e
  refine .int (T:=fun v=>call (.builtin "chr") [v]) hv fun i t=>.guardD fun h=>.still fun zz s zz zz zz hq=>PySem.P.chr_of_int (by simp only[Bool.or_eq_false_iff,decide_eq_false_iff_not];lia) (hq _ _ ⟨_,rfl⟩)
 rcases xs with _|_
 ·exact SZ (P:=fun vs=>AY c k (CV c) (call (.builtin n) vs) (Va c.S n [a,b])) hs fun v w hv hw=>.gp fun e=>e▸W0 G IO hv hw
 ·exact .stuck
theorem Tw {θ:Tp}{es:List (V×V)}:∀{kvs:List (Int×Value)} {prog:C0} {w:World} (vs:List Value),Kv V.int θ k es kvs→vs.length=kvs.length→(∀(j:Nat) (v:Value),vs[j]? =some v→∃q x,kvs[j]? =some (q,x)∧(Dp prog w).is q v=true)→Ap θ k (es.map (·.1)) vs:=by
 induction es with
 |nil=>exact fun vs h hl zz=>By.mp (hl.trans (congrArg A9 (show _=[] from h)))
 |cons p es ih=>
  intro kvs prog w vs h hl hv
  refine Em h fun j x us h1 h2 h3 h4=>?_
  subst h4
  rcases vs with _|⟨v,vs⟩
  ·cases hl
  ·
   refine Dm (hv 0 v rfl) fun q x' e hk=>?_
   have e:=(Prod.mk.inj (AG e)).1
   subst e
   exact⟨v,vs,AA (Value.isInt_shape hk) fun t z=>by show Ag θ k p.1 v;rw[h1,z];exact⟨_,rfl⟩,ih vs h3 (by simpa using hl) fun j w e=>hv (j+1) w (by simpa using e),rfl⟩
theorem XB (G:Good c)(hh:c.A.handled=none){n:String}{xs:List V}{vs:List Value}(hs:Ap c.tp k xs vs):AY c k (CV c) (call (.type n) vs) (Ut n xs):=by
 rcases xs with _|⟨a,xs⟩
 ·exact .stuck
 rcases xs with _|⟨b,xs⟩
 ·
  refine IZ (P:=fun vs=>AY c k (CV c) (call (.type n) vs) (Ut n [a])) hs fun v hv=>.ifp (fun e=>?_) fun zz=>.gp fun e=>?_
  ·subst e
   refine .look fun i ei=>Fo ei fun q=>?_
   subst q
   refine .rd fun k' st s K X o Q E ob es l R e hp P HQ HE=>Ef P fun hl P=>O7 R e hp (hv.mono l) fun a kvs hv hm h1 hD zz=>?_
   subst hv
   exact AA hD.dictAt fun ep hA=>kdl_N (kdl_dict hm) hh R.F R.N hA (by rw[←h1.length];exact AM hl Cv) fun l' cc h' tk vs F' N' hlt hlen hv=>
    HQ ⟨_,k'.I⟩ (.obj st.heap.length) _ ⟨st.loc,st.heap++[O.list (es.map (·.1))]⟩ h' tk (BI.app _) (R.pushList (Tw vs h1 hlen hv) F' N' hlt) (R.newAt _) P
  ·subst e
   refine .int (T:=fun v=>call (.type "range") [v]) hv fun i t=>.req fun h=>fun k₁ st s K X o Q E l R P HQ HE=>call_range_1 ?_
   refine HQ _ (.rng 0 i) _ st _ _ (BI.more [(s.heap.objs.size,_)]) (R.pushI (R.F.push _) (News.push R.F R.N _) (FC ..) fun q hq p hp=>?_) ⟨s.heap.objs.size,_,_,_,.head _,rfl⟩ P
   rw[Ac.mp hq]
   exact As (B4 (R.N p hp).1)
 rcases xs with _|_
 ·
  refine SZ (P:=fun vs=>AY c k (CV c) (call (.type n) vs) (Ut n [a,b])) hs fun v w hv hw=>.ifp (fun e=>?_) fun zz=>.gp fun e=>?_
  ·subst e
   refine .int (T:=fun v=>call (.type "range") [v,w]) hv fun i t=>.int (T:=fun w=>call (.type "range") [.int i t,w]) hw fun j u=>.req fun h=>fun k₁ st s K X o Q E l R P HQ HE=>call_range_2 ?_
   refine HQ _ (.rng i j) _ st _ _ (BI.more [(s.heap.objs.size,_)]) (R.pushI (R.F.push _) (News.push R.F R.N _) (FC ..) fun q hq p hp=>?_) ⟨s.heap.objs.size,_,_,_,.head _,rfl⟩ P
   rw[Ac.mp hq]
   exact As (B4 (R.N p hp).1)
  subst e
  refine .str (T:=fun v=>call (.type "int") [v,w]) hv fun t u=>.int (T:=fun w=>call (.type "int") [.str t u,w]) hw fun i t'=>.guardD fun h=>.dyn (u:=.nat) fun(x:Nat) hx=>.still fun zz s zz zz zz hq=>?_
  have h16:=h.1
  subst h16
  exact UZ (by lia) h.2.1 hx (hq _ _ ⟨_,rfl⟩)
 ·exact .stuck
end
theorem LI {α β:Type}{f:α→β→Sem (ForInStep β)}{g:β→α→β}{b:β}:∀(post pre:List α),(∀pre' a post',pre++post=pre'++a::post'→f a (pre'.foldl g b)=pure (.yield (g (pre'.foldl g b) a)))→
  forIn post (pre.foldl g b) f=pure ((pre++post).foldl g b)
 |[],pre,h=>by rw[List.forIn_nil,AK]
 |a::post,pre,h=>by
  rw[D1,h pre a post rfl]
  show forIn post (g (List.foldl g b pre) a) f=_
  have:=LI post (pre++[a]) (f:=f) (g:=g) (b:=b) fun pre' a' post' e=>h pre' a' post' (by simpa using e)
  rw[List.foldl_append] at this
  simpa using this
theorem Mw {α β:Type}{f:α→β→Sem (ForInStep β)}{g:β→α→β}{b:β}(l:List α)(h:∀pre' a post',l=pre'++a::post'→f a (pre'.foldl g b)=pure (.yield (g (pre'.foldl g b) a))):forIn l b f=pure (l.foldl g b):=
 LI l [] (by simpa using h)
theorem II {β:Type}{k:Str}:∀{l:List (Str×β)},k∉l.map (·.1)→l.lookup k=none
 |[],_=>rfl
 |(q,v)::l,h=>by
  rw[An,AZ,not_or] at h
  rw[Bc,beq_eq_false_iff_ne.mpr h.1]
  exact II h.2
theorem ML {vs:List (Str×Value)}:∀(kw acc:List (Str×Value)),kw.foldl (fun(b:List (Str×Value)×List (Str×Value)) (a:Str×Value)=>(b.1++[(a.1,a.2)],b.2)) (acc,[])=(acc++kw,[])
 |[],acc=>by simp
 |a::kw,acc=>by
  rw[List.foldl_cons,ML (vs:=vs)]
  simp
theorem Nf {α:Type}:∀(ps:List Str) (vs:List α),(ps.zip vs).map (·.1)=ps.take vs.length
 |[],vs=>by simp
 |_::_,[]=>by simp
 |p::ps,v::vs=>by simp[Nf ps vs]
theorem N5 {fd:FuncData}{ps:List Str}{vs ds:List Value}{kw:List (Str×Value)}{Q:List (Str×Value)→Shared→Prop}{s:Shared}{M:Model}{A:Around}{E:Value→Shared→Prop}
  (h1:fd.params.posonlyargs=[])(h2:fd.params.args.map (·.arg)=ps)(h3:fd.params.kwonlyargs=[])(h4:fd.params.vararg=none)(h5:fd.params.kwarg=none)
  (hd:∀{Q:Option (Array Value)→Shared→Prop},(∀o,(o.getD #[]).toList=ds→Q o s)→wpAny M A (seqItems? fd.defaults) Q E s)
  (hfit:fits ps vs kw ds=true)(h:Q (boundOf ps vs kw ds) s):wpAny M A (bindArgs fd ⟨vs,kw⟩) Q E s:=by
 unfold fits at hfit
 simp only[BV,decide_eq_true_eq,B1,Ee,CP] at hfit
 obtain⟨⟨⟨⟨hl,hk⟩,hkn⟩,hds⟩,hmiss⟩:=hfit
 obtain⟨nm,qn,⟨po,ar,va,ko,kd,ka,df⟩,bo,sc,gl,cl,dfl,kw2,dc,pm,an,co,ct,bu⟩:=fd
 cases (show po=[] from h1)
 cases (show ko=[] from h3)
 cases (show va=none from h4)
 cases (show ka=none from h5)
 cases (show ar.map (·.arg)=ps from h2)
 have e1:∀{ps:List Str},(∀x∈kw,ps.contains x.1=true∧(ps.take vs.length).contains x.1=false)→∀f:Str×Value→List (Str×Value)×List (Str×Value)→Sem (ForInStep (List (Str×Value)×List (Str×Value))),(∀a b,ps.contains a.1=true→(b.1.lookup a.1).isSome=false→f a b=pure (.yield (b.1++[(a.1,a.2)],b.2)))→
   forIn kw (ps.zip vs,[]) f=pure (ps.zip vs++kw,[]):=fun{ps} hk f hf=>by
  rw[Mw (g:=fun b a=>(b.1++[(a.1,a.2)],b.2)) kw fun pre' a post' e=>?_,ML (vs:=[])]
  rw[ML (vs:=[])]
  obtain⟨k1,k2⟩:=hk a (by rw[e];simp)
  refine hf _ _ k1 ?_
  rw[II]
  ·rfl
  ·rw[Aa,BB,not_or,Nf]
   refine⟨fun z=>?_,fun z=>?_⟩
   ·rw[Ds.mpr z] at k2;cases k2
   ·rw[e,Aa,An,CC] at hkn
    exact hkn.2.2 a.1 z a.1 (.head _) rfl
 unfold bindArgs
 refine AD (Dh (e1 hk _ fun a b k1 k2=>?_) ?_)
 ·exact(if_pos (by rw[Du];exact .inl k1)).trans (if_neg (by rw[k2];exact AS))
 refine AD (hd fun o ho=>?_)
 subst ho
 refine wpAny_ite_false (decide_eq_false fun z=>?_) ?_
 ·exact Fs.mpr hl (of_decide_eq_true (AP.mp z).1)
 generalize (o.getD #[]).toList=ds at *
 have hdrop:ds.drop (ds.length - (ar.map (·.arg)).length)=ds:=by rw[Nat.sub_eq_zero_of_le hds];rfl
 refine wpAny_ite_false (decide_eq_false fun z=>?_) ?_
 ·have z:(!(List.filter (fun n=>(List.lookup n ((ar.map (·.arg)).zip vs++kw)).isNone) (Ab ((ar.map (·.arg)).length - (ds.drop (ds.length - (ar.map (·.arg)).length)).length) (ar.map (·.arg)))).isEmpty)=true:=z
  rw[hdrop,hmiss] at z;cases z
 refine AD (Dh (Mw (g:=fun acc (p:Str×Value)=>if(acc.lookup p.1).isNone then acc++[(p.1,p.2)] else acc) _ fun pre' a post' e=>?_) ?_)
 ·obtain⟨q,w⟩:=a
  by_cases z:(List.lookup q (pre'.foldl (fun acc (p:Str×Value)=>if(acc.lookup p.1).isNone then acc++[(p.1,p.2)] else acc) ((ar.map (·.arg)).zip vs++kw))).isNone=true
  ·exact(if_pos z).trans (congrArg (fun l=>pure (DP l)) (if_pos z).symm)
  ·exact(if_neg z).trans (congrArg (fun l=>pure (DP l)) (if_neg z).symm)
 have hh:Q ((ar.map (fun x:Arg=>x.arg)++[]).filterMap fun n=>((slots (ar.map (fun x:Arg=>x.arg)) vs kw (ds.drop (ds.length - (ar.map (fun x:Arg=>x.arg)).length))).lookup n).map (n,·)) s:=by rw[AK,hdrop];exact h
 exact AD (AJ (AJ hh))
noncomputable def CL (θ:Tp)(k:Kn):List (Str×V)→List (Str×Value)→Prop
 |[],vs=>vs=[]
 |p::xs,vs=>∃v us,Ag θ k p.2 v∧CL θ k xs us∧vs=(p.1,v)::us
section
variable {θ:Tp}{k:Kn}
theorem CL.mono {k':Kn}(e:BI k k'){xs:List (Str×V)}:∀{vs:List (Str×Value)},CL θ k xs vs→CL θ k' xs vs:=by
 induction xs with
 |nil=>exact id
 |cons x xs ih=>exact fun h=>BJ h fun v us a b c=>⟨v,us,a.mono e,ih b,c⟩
theorem CL.keys {xs:List (Str×V)}:∀{vs:List (Str×Value)},CL θ k xs vs→xs.map (·.1)=vs.map (·.1):=by
 induction xs with
 |nil=>exact fun h=>by rw[show _=[] from h];rfl
 |cons x xs ih=>exact fun h=>BJ h fun v us zz h e=>by rw[e,An,An,ih h]
theorem CL.append {xs ys:List (Str×V)}{ws:List (Str×Value)}(hk:CL θ k ys ws):∀{vs:List (Str×Value)},CL θ k xs vs→CL θ k (xs++ys) (vs++ws):=by
 induction xs with
 |nil=>exact fun h=>by rw[show _=[] from h];exact hk
 |cons x xs ih=>exact fun h=>BJ h fun v us h1 h2 e=>by rw[e];exact⟨v,us++ws,h1,ih h2,rfl⟩
theorem CL.zip {xs:List V}:∀(ps:List Str) {vs:List Value},Ap θ k xs vs→CL θ k (ps.zip xs) (ps.zip vs):=by
 induction xs with
 |nil=>exact fun ps vs h=>by rw[show vs=[] from h,List.zip_nil_right,List.zip_nil_right];rfl
 |cons x xs ih=>
  intro ps vs h
  refine BJ h fun v us h1 h2 e=>?_
  subst e
  rcases ps with _|⟨p,ps⟩
  ·exact rfl
  ·exact⟨v,_,h1,ih ps h2,rfl⟩
theorem CL.look (n:Str){xs:List (Str×V)}:∀{vs:List (Str×Value)},CL θ k xs vs→(xs.lookup n=none∧vs.lookup n=none)∨∃x v,xs.lookup n=some x∧vs.lookup n=some v∧Ag θ k x v:=by
 induction xs with
 |nil=>exact fun h=>by rw[show _=[] from h];exact .inl ⟨rfl,rfl⟩
 |cons x xs ih=>
  refine fun h=>BJ h fun v us h1 h2 e=>?_
  subst e
  rw[Bc,Bc]
  rcases n==x.1 with _|_
  ·exact ih h2
  ·exact .inr ⟨x.2,v,rfl,rfl,h1⟩
theorem CL.isNone (n:Str){xs:List (Str×V)}{vs:List (Str×Value)}(h:CL θ k xs vs):(xs.lookup n).isNone=(vs.lookup n).isNone:=
 (h.look n).elim (fun h=>by rw[h.1,h.2];rfl) fun h=>BJ h fun x v a b zz=>by rw[a,b];rfl
theorem CL.fold {ps:List (Str×V)}:∀{xs:List (Str×V)} {qs vs:List (Str×Value)},CL θ k ps qs→CL θ k xs vs→
  CL θ k (ps.foldl (fun acc p=>if(acc.lookup p.1).isNone then acc++[(p.1,p.2)] else acc) xs) (qs.foldl (fun acc p=>if(acc.lookup p.1).isNone then acc++[(p.1,p.2)] else acc) vs):=by
 induction ps with
 |nil=>exact fun h hk=>by rw[show _=[] from h];exact hk
 |cons p ps ih=>
  refine fun h hk=>BJ h fun v us h1 h2 e=>?_
  subst e
  rw[List.foldl_cons,List.foldl_cons]
  refine ih h2 ?_
  simp only[hk.isNone p.1]
  split
  ·exact CL.append (ys:=[(p.1,p.2)]) (ws:=[(p.1,v)]) ⟨v,[],h1,rfl,rfl⟩ hk
  ·exact hk
theorem CL.slots (ps:List Str){xs:List V}{vs:List Value}{kx:List (Str×V)}{kv:List (Str×Value)}{dx:List V}{dv:List Value}(h:Ap θ k xs vs)(hk:CL θ k kx kv)(hd:Ap θ k dx dv):
  CL θ k (slots ps xs kx dx) (slots ps vs kv dv):=by
 unfold Internal.slots
 rw[hd.length]
 exact CL.fold (CL.zip _ hd) (CL.append hk (CL.zip ps h))
theorem CL.bound (ps:List Str){xs:List V}{vs:List Value}{kx:List (Str×V)}{kv:List (Str×Value)}{dx:List V}{dv:List Value}(h:Ap θ k xs vs)(hk:CL θ k kx kv)(hd:Ap θ k dx dv):
  CL θ k (boundOf ps xs kx dx) (boundOf ps vs kv dv):=by
 have h:=CL.slots ps h hk hd
 unfold boundOf
 generalize Internal.slots ps xs kx dx=X at h
 generalize Internal.slots ps vs kv dv=Y at h
 induction ps with
 |nil=>exact rfl
 |cons p ps ih=>
  rw[List.filterMap_cons,List.filterMap_cons]
  exact(h.look p).elim (fun z=>by rw[z.1,z.2];exact ih) fun z=>BJ z fun x v a b hc=>by rw[a,b];exact⟨v,_,hc,ih,rfl⟩
theorem CL.fits (ps:List Str){xs:List V}{vs:List Value}{kx:List (Str×V)}{kv:List (Str×Value)}{dx:List V}{dv:List Value}(h:Ap θ k xs vs)(hk:CL θ k kx kv)(hd:Ap θ k dx dv):
  fits ps xs kx dx=fits ps vs kv dv:=by
 unfold Internal.fits
 have e1:(kx.all fun p=>ps.contains p.1&& !(ps.take xs.length).contains p.1)=kv.all fun p=>ps.contains p.1&& !(ps.take vs.length).contains p.1:=by
  rw[h.length]
  have a:∀{α:Type} (l:List (Str×α)),(l.all fun p=>ps.contains p.1&& !(ps.take vs.length).contains p.1)=(l.map (·.1)).all fun p=>ps.contains p&& !(ps.take vs.length).contains p:=fun l=>by rw[List.all_map];rfl
  rw[a,a,hk.keys]
 have e2:(fun n=>((ps.zip xs++kx).lookup n).isNone)=fun n=>((ps.zip vs++kv).lookup n).isNone:=funext fun n=>(CL.append hk (CL.zip ps h)).isNone n
 rw[e1,e2,h.length,hd.length,hk.keys]
end
theorem Ha {α:Type}(g:Str→Option α):∀ps:List Str,(ps.filterMap fun n=>(g n).map (n,·)).map (·.1)=ps.filter fun n=>(g n).isSome
 |[]=>rfl
 |p::ps=>by
  rw[List.filterMap_cons,List.filter_cons]
  rcases h:g p with _|v
  ·simp only[Option.map_none,Option.isSome_none,Cm,if_false];exact Ha g ps
  ·simp only[Option.map_some,Option.isSome_some,if_true,An,Ha g ps]
theorem J9 {α:Type}{ps:List Str}(h:ps.Nodup)(vs:List α)(kw:List (Str×α))(ds:List α):((boundOf ps vs kw ds).map (·.1)).Nodup:=by
 unfold boundOf
 rw[Ha]
 exact h.filter _
theorem KO {α:Type}{ps:List Str}{vs:List α}{kw:List (Str×α)}{ds:List α}{x:Str×α}(h:x∈boundOf ps vs kw ds):x.1∈ps:=by
 have:=BO (f:=(·.1)) h
 unfold boundOf at this
 rw[Ha] at this
 exact(List.mem_filter.mp this).1
noncomputable def CF (θ:Tp)(k:Kn):Fl→Flow→Prop
 | .next,f=>f= .next
 | .brk,f=>f= .brk
 | .cont,f=>f= .cont
 | .ret a,f=>∃v,f= .ret v∧Ag θ k a v
theorem J8 (names:List (Str×Aq)):∀(n:Nat) (acc:List (Str×Addr)) (p:Str×Addr),p∈acc→p∈Ch n names acc:=by
 induction names with
 |nil=>exact fun zz zz zz h=>h
 |cons q r ih=>
  intro n acc p h
  unfold Ch
  split
  ·exact ih _ _ _ (.tail _ h)
  ·exact ih _ _ _ h
theorem NH {x:Str}(names:List (Str×Aq)):∀(n:Nat) (acc:List (Str×Addr)),(x,D9)∈names→∃q,(x,q)∈Ch n names acc:=by
 induction names with
 |nil=>exact fun zz zz h=>(BH h).elim
 |cons q r ih=>
  intro n acc h
  unfold Ch
  refine(AZ.mp h).elim (fun h=>?_) fun h=>?_
  ·rw[←h,if_pos (by rfl)]
   exact⟨n,J8 r _ _ _ (.head _)⟩
  ·split<;>exact ih _ _ h
theorem CellsAre.at {cm:Str→Option Value}{x:Str}{q:Addr}{cs:List (Str×Addr)}{cells:List (Addr×Obj)}(h:CellsAre cm cs cells):(x,q)∈cs→∃o,(q,o)∈cells∧o.data= .cell (cm x):=by
 induction h with
 |nil=>exact fun h=>(BH h).elim
 |cons hd hs ih=>exact fun h=>(AZ.mp h).elim (fun h=>by cases h;exact⟨_,.head _,hd⟩) fun h=>Ae (fun o z=>⟨.tail _ z.1,z.2⟩) (ih h)
theorem Il {x:Str}(l:List (Str×V)):Co x l=l.lookup x:=by
 induction l with
 |nil=>rfl
 |cons p l ih=>
  rw[GC,Bc,ih]
  by_cases h:x=p.1
  ·rw[if_pos h,beq_iff_eq.mpr h]
  ·rw[if_neg h,beq_eq_false_iff_ne.mpr h]
theorem lookup_nodup {β:Type}{x:Str}{b:β}{l:List (Str×β)}:(l.map (·.1)).Nodup→(x,b)∈l→l.lookup x=some b:=by
 induction l with
 |nil=>exact fun zz h=>(BH h).elim
 |cons p l ih=>
  intro hn h
  rw[An,C4] at hn
  rw[Bc]
  refine(AZ.mp h).elim (fun h=>by rw[←h,beq_self_eq_true]) fun h=>?_
  rw[beq_eq_false_iff_ne.mpr (show x≠p.1 from fun e=>hn.1 (e▸BO (f:=(·.1)) h))]
  exact ih hn.2 h
theorem Uc {k:Str→Option Aq}{x:Str}(hk:k x=some .local){binds:List (Str×Value)}:∀{m:Str→Option Value},(binds.map (·.1)).Nodup→∀v,binds.lookup x=some v→bindL k binds m x=some v:=by
 induction binds with
 |nil=>exact fun zz zz e=>AU e
 |cons p r ih=>
  intro m hn v e
  rw[An,C4] at hn
  unfold bindL
  rw[Bc] at e
  by_cases h:x=p.1
  ·rw[h,beq_self_eq_true] at e
   have hm:∀(r:List (Str×Value)) (m:Str→Option Value),x∉r.map (·.1)→bindL k r m x=m x:=fun r=>by
    induction r with
    |nil=>exact fun zz zz=>rfl
    |cons q r ih2=>
     intro m h
     rw[An,AZ,not_or] at h
     unfold bindL
     rw[ih2 _ h.2]
     split<;>simp[h.1]
   rw[hm r _ (h▸hn.1),←h,if_pos hk,if_pos rfl,←AG e]
  ·rw[beq_eq_false_iff_ne.mpr h] at e
   exact ih hn.2 v e
theorem Ue {k:Str→Option Aq}{x:Str}(hk:k x≠some .local){binds:List (Str×Value)}:∀{m:Str→Option Value},(binds.map (·.1)).Nodup→∀v,binds.lookup x=some v→bindC k binds m x=some v:=by
 induction binds with
 |nil=>exact fun zz zz e=>AU e
 |cons p r ih=>
  intro m hn v e
  rw[An,C4] at hn
  unfold bindC
  rw[Bc] at e
  by_cases h:x=p.1
  ·rw[h,beq_self_eq_true] at e
   have hm:∀(r:List (Str×Value)) (m:Str→Option Value),x∉r.map (·.1)→bindC k r m x=m x:=fun r=>by
    induction r with
    |nil=>exact fun zz zz=>rfl
    |cons q r ih2=>
     intro m h
     rw[An,AZ,not_or] at h
     unfold bindC
     rw[ih2 _ h.2]
     split<;>simp[h.1]
   rw[hm r _ (h▸hn.1),←h,if_neg hk,if_pos rfl,←AG e]
  ·rw[beq_eq_false_iff_ne.mpr h] at e
   exact ih hn.2 v e
theorem Ud {k:Str→Option Aq}{x:Str}{binds:List (Str×Value)}:∀{m:Str→Option Value},binds.lookup x=none→bindC k binds m x=m x:=by
 induction binds with
 |nil=>exact fun zz=>rfl
 |cons p r ih=>
  intro m e
  unfold bindC
  rw[Bc] at e
  by_cases h:x=p.1
  ·rw[h,beq_self_eq_true] at e;cases e
  ·rw[beq_eq_false_iff_ne.mpr h] at e
   rw[ih e]
   split<;>simp[h]
theorem Rh {names:List (Str×Aq)}(h:(names.map (·.1)).Nodup):∀(n:Nat) (acc:List (Str×Addr)),(acc.map (·.1)).Nodup→(∀p∈acc,p.1∉names.map (·.1))→((Ch n names acc).map (·.1)).Nodup:=by
 induction names with
 |nil=>exact fun zz zz h zz=>h
 |cons q r ih=>
  intro n acc h1 h2
  rw[An,C4] at h
  unfold Ch
  split
  ·refine ih h.2 _ _ (C4.mpr ⟨fun z=>AR (Bq.mp z) fun p hp e=>h2 p hp (by rw[e];exact .head _),h1⟩) fun p hp=>?_
   exact(AZ.mp hp).elim (fun e=>by rw[e];exact h.1) fun hp z=>h2 p hp (.tail _ z)
  ·exact ih h.2 _ _ h1 fun p hp z=>h2 p hp (.tail _ z)
structure bY (θ:Tp)(J:Ba)(g:Str→Option V)(bx:List (Str×V))(bv:List (Str×Value))(cells:Ba)(names:List (Str×Aq))(n:Nat)(acc:List (Str×Addr))(os:List O)(D Dn:List (Option DE))(Mn:Ba):Prop where
 a:∀p∈Mn,p∈cells∧n≤p.1
 b:(Mn.map (·.1)).Nodup
 c:∀(i:Nat) (d:DE),(D++Dn)[i]? =some (some d)→i<D.length→D[i]? =some (some d)
 d:∀k M,CL θ k bx bv→Cs θ J k os D M→Cs θ J k (EE g bx names os).2 (D++Dn) (M++Mn)
 e:∀x a,Co x (EE g bx names os).1=some a→((x,Aq.local)∈names∧a=(Co x bx).getD .undef)∨((x,EN)∈names∧g x=some a)∨((x,D9)∈names∧∃i q,a= .cref i∧(x,q)∈Ch n names acc∧(D++Dn)[i]? =some (some (q,0)))
theorem OV {θ:Tp}{J:Ba}{g:Str→Option V}{bx:List (Str×V)}{bv:List (Str×Value)}{cm:Str→Option Value}{cells:Ba}(hc:∀x u v,bx.lookup x=some u→bv.lookup x=some v→cm x=some v){names:List (Str×Aq)}:
  ∀(n:Nat) (acc:List (Str×Addr)) (os:List O) (D:List (Option DE)),os.length=D.length→(∀x q,(x,D9)∈names→(x,q)∈Ch n names acc→n≤q→∃o,(q,o)∈cells∧o.data= .cell (cm x))→
  ∃Dn Mn,bY θ J g bx bv cells names n acc os D Dn Mn:=by
 induction names with
 |nil=>exact fun n acc os D zz zz=>⟨[],[],(fun zz h=>nomatch h),Er,fun i d h zz=>by rw[AK] at h;exact h,fun k M zz h=>by rw[AK,AK];exact h,fun x a h=>AU h⟩
 |cons p r ih=>
  intro n acc os D hl H
  have look:∀{x:Str} {u a:V} {l:List (Str×V)},Co x ((p.1,u)::l)=some a→(x=p.1∧u=a)∨Co x l=some a:=fun{x u a l} h=>by
   rw[GC] at h
   by_cases e:x=p.1
   ·rw[if_pos e] at h;exact .inl ⟨e,AG h⟩
   ·rw[if_neg e] at h;exact .inr h
  by_cases hk:p.2= .cell
  ·have ep:p=(p.1,.cell):=by rw[←hk]
   have e1:Ch n (p::r) acc=Ch (n+1) r ((p.1,n)::acc):=by rw[ep];rfl
   have e2:EE g bx (p::r) os=((p.1,.cref os.length)::(EE g bx r (os++[.cell ((Co p.1 bx).getD .undef)])).1,(EE g bx r (os++[.cell ((Co p.1 bx).getD .undef)])).2):=by rw[ep];rfl
   rw[e1] at H
   have h0:=J8 r (n+1) ((p.1,n)::acc) _ (.head _)
   refine AR (H p.1 n (by rw[←hk];exact .head _) h0 (Ak _)) fun ob h1 h2=>?_
   refine AA (ih (n+1) ((p.1,n)::acc) (os++[.cell ((Co p.1 bx).getD .undef)]) (D++[some (n,0)]) (by rw[AF,AF,hl];rfl) fun x q hx hq hn=>H x q (.tail _ hx) hq (G3 hn)) fun Dn h=>AA h fun Mn h=>?_
   refine⟨some (n,0)::Dn,(n,ob)::Mn,fun q hq=>(AZ.mp hq).elim (fun e=>e▸⟨h1,Ak _⟩) fun hq=>⟨(h.1 q hq).1,G3 (h.1 q hq).2⟩,?_,fun i d e hi=>by rw[C6 hi] at e;exact e,fun k M hb hM=>?_,fun x a hx=>?_⟩
   ·rw[An,C4]
    exact⟨fun z=>AR (Bq.mp z) fun q hq e=>absurd (h.1 q hq).2 (by rw[e];exact Nat.not_succ_le_self n),h.2⟩
   ·have z:=h.4 k (M++[(n,ob)]) hb (Cs.snoc (o:=.cell ((Co p.1 bx).getD .undef)) (d:=some (n,0)) (L:=[(n,ob)]) ⟨(n,0),[],n,ob,rfl,rfl,rfl,rfl,_,h2,?_⟩ hM)
    ·rw[e2];simpa using z
    ·rw[Il]
     exact(hb.look p.1).elim (fun z=>by rw[z.1];exact .inl rfl) fun z=>BJ z fun u v a b hc'=>by rw[a];exact .inr ⟨v,hc _ _ _ a b,hc'⟩
   ·rw[e2] at hx
    refine(look hx).elim (fun z=>.inr (.inr ⟨?_,os.length,n,z.2.symm,?_,?_⟩)) fun hx=>((h.5 x a hx).imp (fun z=>⟨.tail _ z.1,z.2⟩) fun z=>z.imp (fun z=>⟨.tail _ z.1,z.2⟩) fun z=>⟨.tail _ z.1,?_⟩)
    ·rw[z.1,←hk];exact .head _
    ·rw[z.1,e1];exact h0
    ·rw[hl,C2 (Ak _),Ep];rfl
    ·rw[e1];simpa using z.2
  ·have e1:Ch n (p::r) acc=Ch n r acc:=by
    cases p with|mk a b=>rcases b with _|_<;>first|exact absurd rfl hk|rfl
   have e3:(EE g bx (p::r) os).2=(EE g bx r os).2:=by
    cases p with|mk a b=>rcases b with _|_<;>first|exact absurd rfl hk|rfl
   rw[e1] at H
   refine AA (ih n acc os D hl fun x q hx hq hn=>H x q (.tail _ hx) hq hn) fun Dn h=>AA h fun Mn h=>?_
   refine⟨Dn,Mn,h.1,h.2,h.3,fun k M hb hM=>by rw[e3];exact h.4 k M hb hM,fun x a hx=>?_⟩
   rw[e1]
   have rest:=fun hx=>((h.5 x a hx).imp (fun z=>(⟨.tail _ z.1,z.2⟩:(x,Aq.local)∈p::r∧_)) fun z=>z.imp (fun z=>(⟨.tail _ z.1,z.2⟩:(x,EN)∈p::r∧_)) fun z=>(⟨.tail _ z.1,z.2⟩:(x,D9)∈p::r∧_))
   rcases p with⟨y,b⟩
   ·
    cases b with
    |«local»=>exact(look hx).elim (fun z=>.inl ⟨by rw[z.1];exact .head _,by rw[z.1];exact z.2.symm⟩) rest
    |globalImplicit=>
     have hx:Co x (match g y with|some v=>(y,v)::(EE g bx r os).1|none=>(EE g bx r os).1)=some a:=hx
     rcases hg:g y with _|v
     ·rw[hg] at hx;exact rest hx
     ·
      rw[hg] at hx
      exact(look hx).elim (fun z=>.inr (.inl ⟨by rw[z.1];exact .head _,by rw[z.1,hg,z.2]⟩)) rest
    |cell=>exact absurd rfl hk
    |_=>exact rest hx
noncomputable def Gf (B h:Heap)(e:Addr):Prop:=∃oe vs T oT ts fl,h.get? e=some oe∧oe.data= .fields vs∧vs[1]? =some (.ref T)∧B.get? T=none∧T≠e∧h.get? T=some oT∧oT.data= .fields ts∧ts[3]? =some fl
section
variable {M:Model}{A:Around}{E:Value→Shared→Prop}{s:Shared}{B:Heap}{env:Env}{outer:List Env}{L e dx:Addr}{cls:Value}{Q:Unit→Shared→Prop}
theorem Oc {o:Obj}{vs:Array Value}(hd:o.data= .fields vs)(f:Array Value→Array Value):o.mapFields f={o with data:=.fields (f vs)}:=by
 obtain⟨a,b,c,d⟩:=o
 cases hd;rfl
theorem Us {h h':Heap}{p:Addr}(hp:∃o vs,h.get? p=some o∧o.data= .fields vs)(hk:∀b,b≠p→h'.get? b=h.get? b):h.UpToSlots h':=fun b o eb hn=>by
 refine⟨o.slots,(hk b fun z=>?_).trans eb⟩
 obtain⟨o',vs,h1,h2⟩:=hp
 rw[z,h1] at eb
 exact hn vs (AG eb▸h2)
theorem Mv {h h':Heap}{l:List Env}(hl:h.FunFrames B l)(u:h.UpToSlots h'):h'.FunFrames B l:=hl.of_keeps fun b o eb hn=>let⟨sl,q⟩:=u b o eb hn;⟨_,q,rfl⟩
theorem Nm (hfr:A.frames=some (env::outer))(hf:env.frame=some L)(fl:FU B (env::outer) e cls dx s.heap){oe:Obj}{vs:Array Value}{head:Value}{hadNext:Bool}(he:s.heap.get? e=some oe)(hc:oe.cls=cls)(hdx:oe.dict=some dx)(hd:oe.data= .fields vs)(hz:1<vs.size)
  (h:∀h',FU B (env::outer) e cls dx h'→Gf B h' e→s.heap.UpToSlots h'→Q () {s with heap:=h'}):
  wpAny M A (do let a ←frameOf env;let pl ←entryPlaceOf L hadNext;let b ←EntryCells.newEntry head a .none (rawInt L) .none pl;setField (.ref e) 1 b) Q E s:=by
 have hne:e∉(env::outer).filterMap (·.frame):=fun hm=>by
  obtain⟨_,o,ho,hn⟩:=fl.frames.mem hm
  exact hn vs (AG (he.symm.trans ho)▸hd)
 refine AD (wpAny_frameOf_fun hfr fl.frames hf fun h₁ hs=>AD (wpAny_entryPlaceOf fun pl hpl=>?_))
 unfold EntryCells.newEntry newFields
 refine AD (wpAny_newObj_type ?_ (hpl.sizeOk5 _ _ _ _ _))
 have g1:h₁.get? e=some oe:=(hs.2.1 e hne).trans he
 have u1:s.heap.UpToSlots h₁:=fun b o eb zz=>hs.2.2 b o eb
 have st1:B.StaysIn h₁:=fun b o eb=>(hs.2.1 b fun hm=>by rw[(fl.frames.mem hm).1] at eb;cases eb).trans (fl.stays b o eb)
 generalize hT:({cls:=.type "traceback",dict:=none,data:=.fields ([head,.ref L,.none,rawInt L,.none]++(if pl.isEmpty then List.replicate 6 Value.none else pl)).toArray}:Obj)=oT
 have dT:∃ts fl,oT.data= .fields ts∧ts[3]? =some fl:=⟨_,rawInt L,by rw[←hT],by first|(simp;done)|(rcases hpl with rfl|⟨_,_,_,_,_,_,_,rfl⟩<;>simp)⟩
 have fT:oT.isFreed=false:=by rw[←hT];rfl
 have g2:=BN (h:=h₁) oT g1
 refine wpAny_setField g2 hd hz ?_
 have ne:h₁.objs.size≠e:=CT (B4 g1)
 have ho:∀b,b≠e→((h₁.push oT).update e (FH (·.setIfInBounds 1 (.ref h₁.objs.size)))).get? b=(h₁.push oT).get? b:=fun b hb=>Dl _ _ (DS hb)
 have hT2:((h₁.push oT).update e (FH (·.setIfInBounds 1 (.ref h₁.objs.size)))).get? h₁.objs.size=some oT:=(ho _ ne).trans (Heap.get?_push_at rfl fT)
 have he2:=DH (FH (·.setIfInBounds 1 (.ref h₁.objs.size))) g2 (Obj.isFreed_of_fields (Fb hd _))
 have u2:h₁.UpToSlots ((h₁.push oT).update e (FH (·.setIfInBounds 1 (.ref h₁.objs.size)))):=
  (Heap.UpToSlots.of_keeps fun b o eb=>BN oT eb).trans (Us ⟨oe,vs,g2,hd⟩ ho)
 have bT:B.get? h₁.objs.size=none:=st1.fresh
 refine AA dT fun ts dT=>AR dT fun flv d1 d2=>?_
 have hv:(vs.setIfInBounds 1 (.ref h₁.objs.size))[1]? =some (.ref h₁.objs.size):=by simp[hz]
 have hd2:=Fb hd (·.setIfInBounds 1 (.ref h₁.objs.size))
 refine h _ ⟨fun b o eb=>?_,fl.new,Mv fl.frames (u1.trans u2),_,_,he2,?_,?_,hd2,.inr ⟨_,oT,ts,flv,hv,bT,ne,hT2,d1,d2⟩⟩ ⟨_,_,_,oT,ts,flv,he2,hd2,hv,bT,ne,hT2,d1,d2⟩ (u1.trans u2)
 ·exact(ho b fun z=>by rw[z,fl.new] at eb;cases eb).trans (BN oT (st1 b o eb))
 ·rw[Oc hd];exact hc
 ·rw[Oc hd];exact hdx
theorem P8 (fl:FU B outer e cls dx s.heap){oe oT:Obj}{vs ts:Array Value}{T:Addr}{f x:Value}(he:s.heap.get? e=some oe)(hc:oe.cls=cls)(hdx:oe.dict=some dx)(hd:oe.data= .fields vs)(h1:vs[1]? =some (.ref T))(hB:B.get? T=none)(hne:T≠e)(hT:s.heap.get? T=some oT)(hdT:oT.data= .fields ts)(h3:ts[3]? =some f)
  (h:∀h',FU B outer e cls dx h'→Gf B h' e→h'.get? e=some oe→s.heap.UpToSlots h'→Q () {s with heap:=h'}):wpAny M A (setField (.ref T) 3 x) Q E s:=by
 have hz:3<ts.size:=(E0.mp h3).1
 refine wpAny_setField hT hdT hz ?_
 have ho:∀b,b≠T→(s.heap.update T (FH (·.setIfInBounds 3 x))).get? b=s.heap.get? b:=fun b hb=>Dl _ _ (DS hb)
 have hT2:=DH (FH (·.setIfInBounds 3 x)) hT (Obj.isFreed_of_fields (Fb hdT _))
 have hd2:=Fb hdT (·.setIfInBounds 3 x)
 have he2:=(ho e (DS hne)).trans he
 have hv:(ts.setIfInBounds 3 x)[3]? =some x:=by simp[hz]
 have u:=Us ⟨oT,ts,hT,hdT⟩ ho
 exact h _ ⟨fun b o eb=>(ho b fun z=>by rw[z,hB] at eb;cases eb).trans (fl.stays b o eb),fl.new,Mv fl.frames u,oe,vs,he2,hc,hdx,hd,.inr ⟨T,_,_,x,h1,hB,hne,hT2,hd2,hv⟩⟩ ⟨oe,vs,T,_,_,x,he2,hd,h1,hB,hne,hT2,hd2,hv⟩ he2 u
theorem OS (hfr:A.frames=some (env::outer))(hf:env.frame=some L)(fl:FU B (env::outer) e cls dx s.heap)
  (h:∀h',FU B (env::outer) e cls dx h'→Gf B h' e→s.heap.UpToSlots h'→Q () {s with heap:=h'}):wpAny M A (noteFrame (.ref e) env) Q E s:=by
 refine FF fl.obj fun oe vs he hc hdx hd ht=>?_
 unfold noteFrame
 simp only[hf]
 rcases ht with ht|⟨T,oT,ts,f,h1,hB,hne,hT,hdT,h3⟩
 ·refine AD (G7 he hd ht ?_)
  rw[if_neg (by decide)]
  exact Nm hfr hf fl he hc hdx hd (E0.mp ht).1 h
 ·refine AD (G7 he hd h1 ?_)
  rw[if_pos (show(Value.ref T != Value.none)=true from by simp)]
  refine AD (G7 hT hdT h3 ?_)
  by_cases q:(f==rawInt L)=true
  ·rw[if_pos q]
   exact AJ (h s.heap fl ⟨oe,vs,T,oT,ts,f,he,hd,h1,hB,hne,hT,hdT,h3⟩ (.refl _))
  ·rw[if_neg q]
   refine AD (P8 fl he hc hdx hd h1 hB hne hT hdT h3 fun h' fl' t' he' u=>?_)
   exact Nm (s:={s with heap:=h'}) hfr hf fl' he' hc hdx hd (E0.mp h1).1 fun h'' a b c=>h h'' a b (u.trans c)
theorem IT {fr:Option Addr}(fl:FU B outer e cls dx s.heap)(h:∀h',FU B outer e cls dx h'→(Gf B s.heap e→Gf B h' e)→s.heap.UpToSlots h'→Q () {s with heap:=h'}):wpAny M A (setFlight (.ref e) fr) Q E s:=by
 refine FF fl.obj fun oe vs he hc hdx hd ht=>?_
 unfold setFlight
 rcases ht with ht|⟨T,oT,ts,f,h1,hB,hne,hT,hdT,h3⟩
 ·refine AD (G7 he hd ht ?_)
  rw[if_neg (by decide)]
  exact AJ (h s.heap fl id (.refl _))
 ·refine AD (G7 he hd h1 ?_)
  rw[if_pos (show(Value.ref T != Value.none)=true from by simp)]
  exact P8 fl he hc hdx hd h1 hB hne hT hdT h3 fun h' a b zz u=>h h' a (fun zz=>b) u
theorem FU.up (fl:FU B (env::outer) e cls dx s.heap):FU B outer e cls dx s.heap:=⟨fl.stays,fl.new,fl.frames.2.2,fl.obj⟩
theorem SL (hfr:A.frames=some (env::outer))(hf:env.frame=some L)(fl:FU B (env::outer) e cls dx s.heap)
  (h:∀h',FU B outer e cls dx h'→Gf B h' e→s.heap.UpToSlots h'→Q () {s with heap:=h'}):wpAny M A (leaving env (.ref e)) Q E s:=
 AD (OS hfr hf fl fun h' a b c=>IT (s:={s with heap:=h'}) a fun h'' a' b' c'=>h h'' (FU.up (s:={s with heap:=h''}) a') (b' b) (c.trans c'))
theorem UI (fl:FU B outer e cls dx s.heap)(t:Gf B s.heap e){E':Value→Shared→Prop}(h:∀h',FU B outer e cls dx h'→s.heap.UpToSlots h'→E' (.ref e) {s with heap:=h'}):cameBackBy M A env E' (.ref e) s:=by
 refine YB t fun oe vs T oT ts f he hd h1 hB hne hT hdT h3=>?_
 unfold cameBackBy
 refine AD (G7 he hd h1 ?_)
 rw[if_neg (by simp)]
 exact IT fl fun h' a zz u=>h h' a u
end
section
variable {φ:Fm}{l:List Env}{k:Kn}{st:St}{h h':Heap}{a:V}{e:Addr}
noncomputable def DC.on (R:DC φ l k st h a e)(fl:FU R.B l e (.ref (φ.tp.ac R.j)) R.dx h')(u:h.UpToSlots h'):DC φ l k st h' a e:=
 ⟨R.B,R.m,R.MO,R.j,R.fs,R.dx,R.es,R.n,R.base,fl,R.rows,R.nd,R.up.trans u,u.ns R.ns,R.above,R.loc,R.heap,R.isx,R.val,R.row,R.flds⟩
noncomputable def DC.dropJ {c:Cx}{L:Ba}(hd:∀p∈L,∀kvs,¬p.2.IsDictOf (Dp c.prog c.w) kvs)(R:DC ⟨c.tp,c.env,c.h₀,L++c.J⟩ l k st h a e):DC c.fm l k st h a e:=by
 have pm:CK (R.MO++((L++c.J)++k.I)) (L++(R.MO++(c.J++k.I))):=by rw[AB];exact BE R.MO L (c.J++k.I)
 refine⟨R.B,R.m,R.MO,R.j,R.fs,R.dx,R.es,R.n,R.base,R.fly,fun p hp=>R.rows p (pm.mem_iff.mpr (AX _ hp)),?_,R.up,R.ns,R.above,R.loc,R.heap.imp (.refl _) fun p kvs hp z=>(BB.mp hp).elim (fun hp=>(hd p hp kvs z).elim) id,R.isx,R.val,R.row,R.flds⟩
 have nd:((L++(R.MO++(c.J++k.I))).map (·.1)).Nodup:=FR pm.symm R.nd
 exact(CC.mp (Aa▸nd:(L.map (·.1)++(R.MO++(c.J++k.I)).map (·.1)).Nodup)).2.1
end
noncomputable def G6 (c:Cx)(k:Kn)(s:Shared)(X:V→St→Ay)(o:Except V V×List O)(E:Value→Shared→Prop):Prop:=
 ∀k' a st' e h' tk,BI k k'→(R:DC c.fm c.outer k' st' h' a e)→Gf R.B h' e→Y c.l o (X a st')→E (.ref e) {s with heap:=h',toks:=tk}
noncomputable def HJ (c:Cx):Prop:=(∃rest,c.outer=c.env::rest)∧c.env.frame=some c.env.locals
section
variable {c:Cx}{k k':Kn}{s:Shared}{X:V→St→Ay}{o:Except V V×List O}{E:Value→Shared→Prop}
theorem Mx {M:Model}{A:Around}{s:Shared}{B:Heap}{env:Env}{l outer:List Env}{L e dx:Addr}{cls:Value}{Q:Unit→Shared→Prop}(hl:l=env::outer)(hfr:A.frames=some l)(hf:env.frame=some L)(fl:FU B l e cls dx s.heap)
  (h:∀h',FU B l e cls dx h'→Gf B h' e→s.heap.UpToSlots h'→Q () {s with heap:=h'}):wpAny M A (noteFrame (.ref e) env) Q E s:=by
 subst hl
 exact OS hfr hf fl h
theorem G6.noted (hfr:c.A.frames=some c.outer)(ho:HJ c)(H:G6 c k s X o E):Fy c k s X o (notedBy c.M c.A c.env E):=by
 intro k' a st' e h' tk l R P
 exact ho.1.elim fun rest hr=>Mx (s:={s with heap:=h',toks:=tk}) hr hfr ho.2 R.fly fun h'' f t u=>H k' a st' e h'' tk l (R.on f u) t P
theorem Fy.back (H:Fy c k s X o E):G6 c k s X o (fun e s'=>cameBackBy c.M c.A c.env E e s'):=fun k' a st' e h' tk l R t P=>UI (s:={s with heap:=h',toks:=tk}) R.fly t fun h'' f u=>H k' a st' e h'' tk l (R.on f u) P
theorem G6.ext {h':Heap}{tk:Nat}(H:G6 c k s X o E)(e:BI k k'):G6 c k' {s with heap:=h',toks:=tk} X o E:=fun k'' a st' x h'' tk' l R t P=>H k'' a st' x h'' tk' (e.trans l) R t P
theorem ER.errT {c':Cx}{k:Kn}{s:Shared}{E:Value→Shared→Prop}(H:ER c X o)(e:c'.l=c.l:=by rfl):G6 c' k s X o E:=fun zz a st' zz zz zz zz zz zz P=>(H a st' (e▸P)).elim
end
structure Vh where
 oc:Value
 od:Option Addr
 osl:Array (Option Value)
 name:Str
 qual:Str
 params:Arguments
 dV:Value
 kV:Value
 doc:Value
 pm:Value
 an:Option Addr
 cdv:Value
 ct:Value
noncomputable def Vh.fd (q:Vh)(fn:Fn):FuncData:=fnX q.name q.qual q.params fn.body fn.scope [] q.dV q.kV q.doc q.pm q.an q.cdv q.ct
structure Ul (θ:Tp)(f:Nat)(fn:Fn):Prop where
 look:∃q:Vh,θ.K.lookup (θ.af f)=some ⟨q.oc,q.od,.func (q.fd fn),q.osl⟩∧codeIn θ.K q.cdv q.qual=true∧
  q.params.posonlyargs=[]∧q.params.args.map (·.arg)=fn.params∧q.params.kwonlyargs=[]∧q.params.vararg=none∧q.params.kwarg=none∧
  ((q.dV= .none∧fn.dflts=[])∨∃(T:Addr) (ob:Obj) (n:Nat) (vs:List Value),q.dV= .ref T∧θ.K.lookup T=some ob∧ob.data= .seq (AE vs) n∧Ap θ ⟨[],[]⟩ fn.dflts vs)
 keep:keepIn θ.K (.ref (θ.af f))=true
 nodup:fn.params.Nodup
 names:(fn.scope.names.map (·.1)).Nodup
 kinds:∀p∈fn.params,(p,Aq.local)∈fn.scope.names∨(p,D9)∈fn.scope.names
 dbg:("__debug__":Str)∉fn.scope.names.map (·.1)
 co:fn.scope.isCoroutine=false
 gen:fn.scope.isGenerator=false
 kind:fn.scope.kind= .function
theorem OM {A:Around}{base h₀:Heap}{fl:List Env}{L:Addr}{m:Str→Option Value}{news:Ba}{R:Result→Shared→Prop}{s:Shared}(hs:base.StaysIn h₀)(F:Fr h₀ L s.heap m)(N:News h₀ L s.heap news)(hA:A.frames=some fl)(ff:(hideAll s.heap (news.map (·.1))).FunFrames base fl):
  Fr h₀ L (hideAll s.heap (news.map (·.1))) m∧Below A base fl (hideAll s.heap (news.map (·.1)))∧h₀.StaysIn (hideAll s.heap (news.map (·.1)))∧
   ∀v s',LeaveK h₀ L m (hideAll s.heap (news.map (·.1))) R v s'→R (.ok (.ret v)) s':=by
 let env:Env:={scope:=⟨.function,[],false,false,[]⟩,locals:=L,globals:=Cn,cells:=[],qual:="",func:=none,code:=.none,frame:=some L,builtins:=builtinsNs}
 have B:Below {A with frames:=some []} h₀ [] h₀:=⟨rfl,fun zz zz e=>e,trivial⟩
 obtain⟨g1,g2,g3,g4⟩:=groundX (A:={A with frames:=some [env]}) (env:=env) (R:=R) B F N rfl rfl rfl
 exact⟨g1,⟨hA,fun b o e=>g3 b o (hs b o e),ff⟩,g3,g4⟩
theorem Zq {prog:C0}{w:World}{A:Around}{s:Shared}{base h₀:Heap}{fl:List Env}{L:Addr}{m:Str→Option Value}{news:Ba}{R:Result→Shared→Prop}{name qual:Str}{params:Arguments}{body:List Stmt}{scope:Scope}{dV kV doc pm cdv ct:Value}{an:Option Addr}{fo:Obj}{f:Addr}{args:Args}{binds:List (Str×Value)}
  (hs:base.StaysIn h₀)(F:Fr h₀ L s.heap m)(N:News h₀ L s.heap news)(hlim:h₀.NoLimit)(hA:A.frames=some fl)(ff:(hideAll s.heap (news.map (·.1))).FunFrames base fl)
  (ho:s.heap.get? f=some fo)(hd:fo.data= .func (fnX name qual params body scope [] dV kV doc pm an cdv ct))(hcd:s.heap.CodeRec cdv qual)(hroom:A.depth<Fi)
  (hbind:BindsTo s (fnX name qual params body scope [] dV kV doc pm an cdv ct) args binds)
  (hkind:∀n,∀x∈binds,scope.names.lookup x.1=some .local∨(scope.names.lookup x.1=some .cell∧((Ch n scope.names []).lookup x.1).isSome=true))
  (hnd:((Ch 0 scope.names []).map (·.1)).Nodup)
  (h:∀g L' h₁ tk cells,Fr h₀ L g m→Fr g L' h₁ (bindL (envOfC qual scope L' f cdv).kindOf binds fun zz=>none)→News g L' h₁ (cells++news)→
   CellsAre (bindC (envOfC qual scope L' f cdv).kindOf binds fun zz=>none) (Ch (L'+1) scope.names []) cells→Below A base fl g→h₀.StaysIn g→(∀p∈news,p.1<L')→
   wpAny (model prog w) (A.deeper (envOfC qual scope L' f cdv)) (execs body (envOfC qual scope L' f cdv))
    (fun fl s'=>LeaveK h₀ L m g R (match fl with| .ret v=>v|_=>.none) s')
    (fun e s'=>wpAny (model prog w) (A.deeper (envOfC qual scope L' f cdv)) (leaving (envOfC qual scope L' f cdv) e) (fun zz s''=>R (.error e) s'') (fun e' s''=>R (.error e') s'') s') {s with heap:=h₁,toks:=tk})
  (hco:scope.isCoroutine=false)(hgen:scope.isGenerator=false)(hk:scope.kind= .function):Bl (model prog w) A (.call (.ref f) args) R s:=by
 obtain⟨FG,BG,st,lv⟩:=OM (R:=R) hs F N hA ff
 refine codeAny_call_function hroom ho hd hco hgen rfl hcd (hbind _ _ _ _ ?_)
 refine wpAny_newFunctionEnv_cells hk (hkind _) fun env' he s' x=>?_
 subst he
 refine⟨(hlim.keeps F.keep).keeps x.toInCall.keep,codeAny_func ?_⟩
 obtain⟨h₁,tk,rfl,_⟩:=x.done
 have hk₁:=x.toInCall.keep
 refine AR (Cl.news (h₀:=s.heap) (Ak _) fun n c hm=>⟨x.cell n c (lookup_of_mem_nodup (cellsFrom_names scope.names 0 (s.heap.objs.size+1) [] [] rfl▸hnd) hm),x.above n c hm⟩) fun cells NC Y=>?_
 refine Br (h _ s.heap.objs.size h₁ tk cells FG ⟨x.toInCall.ns,fun b o e=>hk₁ b o (of_hideAll _ e),Bp (hideAll_size _ _)⟩ (fun p hp=>?_) Y BG st (fun p hp=>B4 (N p hp).1)) (fun fl s' hl=>lv _ _ hl) fun zz zz y=>y
 rcases BB.mp hp with hp|hp
 ·refine⟨(NC p hp).1,(NC p hp).2.1,?_⟩
  cases q:(hideAll s.heap (news.map (·.1))).get? p.1 with
  |none=>rfl
  |some o=>have:=of_hideAll _ q;rw[(NC p hp).2.2] at this;cases this
 ·exact⟨hk₁ _ _ (N p hp).1,As (B4 (N p hp).1),hideAll_none _ (BO hp)⟩
noncomputable abbrev Cb (c:Cx)(env:Env)(g:Heap):Cx:=⟨⟨c.tp,env,g,c.J⟩,c.A.deeper env,env::c.outer,c.lv⟩
noncomputable def Uo (c:Cx)(k:Kn)(loc:List (Str×V))(s:Shared)(K X:V→List O→Ay)(o:Except V V×List O)(R:Result→Shared→Prop):Prop:=
 (∀k' v b hp h' tk,Y c.l o (K v hp)→BI k k'→Al c.fm k' ⟨loc,hp⟩ h'→Ag c.tp k' v b→R (.ok (.ret b)) {s with heap:=h',toks:=tk})∧
  ∀k' a e hp h' tk,Y c.l o (X a hp)→BI k k'→DC c.fm c.outer k' ⟨loc,hp⟩ h' a e→R (.error (.ref e)) {s with heap:=h',toks:=tk}
noncomputable def Eo (c:Cx)(k₀:Kn)(code:Code)(f:HM):Prop:=
 ∀k st s K X o R,BI k₀ k→Al c.fm k st s.heap→Y c.l o (f st.heap K X)→Uo c k st.loc s K X o R→Bl c.M c.A code R s
theorem Sn {c:Cx}{k:Kn}{s:Shared}{loc:List (Str×V)}{K:V→St→Ay}{X:V→St→Ay}{o:Except V V×List O}{Q:Value→Shared→Prop}{E:Value→Shared→Prop}{R:Result→Shared→Prop}
  (HQ:FV c (CV c) k s K o Q)(HE:Fy c k s X o E)(hR:∀v s',Q v s'→R (.ok (.ret v)) s')(hE:∀e s',E e s'→R (.error e) s'):Uo c k loc s (fun v h=>K v ⟨loc,h⟩) (fun x h=>X x ⟨loc,h⟩) o R:=
 ⟨fun k' v b hp h' tk P l R' hc=>hR _ _ (HQ k' v b ⟨loc,hp⟩ h' tk l R' hc P),fun k' a e hp h' tk P l R'=>hE _ _ (HE k' a ⟨loc,hp⟩ e h' tk l R' P)⟩
theorem Eo.call {c:Cx}{k:Kn}{f:Value}{vs:List Value}{kv:List (Str×Value)}{m:HM}(h:Eo c k (.call f ⟨vs,kv⟩) m):AY c k (CV c) (call f vs kv) (LB m):=
 fun k₁ st s K X o Q E l R P HQ HE=>wpAny_call (h k₁ st s _ _ o _ l R P (Sn HQ HE (fun zz zz z=>z) fun zz zz z=>z))
noncomputable def DC.out {c:Cx}{env:Env}{g:Heap}{k:Kn}{st:St}{h h':Heap}{a:V}{e:Addr}{m:Str→Option Value}{loc:List (Str×V)}(R:DC ⟨c.tp,env,g,c.J⟩ (env::c.outer) k st h a e)(fl:FU R.B c.outer e (.ref (c.ac R.j)) R.dx h')(u:h.UpToSlots h')
  (hg:c.h₀.StaysIn g)(F:Fr c.h₀ c.env.locals g m)(hl:J0 c.fm k m loc):DC c.fm c.outer k ⟨loc,st.heap⟩ h' a e:=
 ⟨R.B,m,R.MO,R.j,R.fs,R.dx,R.es,R.n,R.base,fl,fun p hp=>⟨(R.rows p hp).1,fresh_of_stays hg (R.rows p hp).2⟩,R.nd,(Heap.UpToSlots.of_keeps hg).trans (R.up.trans u),(R.up.trans u).ns F.ns,F.above,hl,R.heap,R.isx,R.val,R.row,R.flds⟩
theorem Ox {c:Cx}(G:Good c)(hroom:c.A.depth<Fi){f:Nat}{fn:Fn}(F:Ul c.tp f fn)(hfn:c.S.fns f=some fn){r:GT}{d:Nat}
  (IH:∀env g k,Good (Cb c env g)→HJ (Cb c env g)→AY (Cb c env g) k (CF c.tp) (execs fn.body env) (Iw r d fn))
  {k:Kn}{xs:List V}{vs:List Value}{kx:List (Str×V)}{kv:List (Str×Value)}(hv:Ap c.tp k xs vs)(hk:CL c.tp k kx kv):Eo c k (.call (.ref (c.af f)) ⟨vs,kv⟩) (H5 c.S r d f xs kx):=by
 intro k₁ st s KK XX o Q l R P HQ
 have hv:=hv.mono l
 have hk:=hk.mono l
 refine AA F.look fun q h=>?_
 have X:c.K.In s.heap:=G.X.keeps R.F.keep
 have P:Y c.l o (oB (c.S.fns f) fun fn=>oB (K9 fn xs kx) fun b=>Iw r d fn (entry c.S fn.scope b st.heap) (Ho KK) (Hv XX)):=P
 rw[hfn] at P
 have P:Y c.l o (oB (K9 fn xs kx) fun b=>Iw r d fn (entry c.S fn.scope b st.heap) (Ho KK) (Hv XX)):=P
 refine Bh P fun bx hb P=>IJ hb fun hfit hb=>E1 hb fun hb=>?_
 refine AA (show ∃dv,Ap c.tp k₁ fn.dflts dv∧∀(M:Model) (A:Around) (E:Value→Shared→Prop) (Q:Option (Array Value)→Shared→Prop),(∀o:Option (Array Value),(o.getD #[]).toList=dv→Q o s)→wpAny M A (seqItems? q.dV) Q E s from ?_) fun dv hd=>?_
 ·exact h.2.2.2.2.2.2.2.elim (fun z=>⟨[],by rw[z.2];rfl,fun M A E Q h=>by rw[z.1];exact AJ (h none rfl)⟩) fun z=>D6 z fun T ob n us z1 z2 z3 z4=>⟨us,z4.mono (BI.nil _),fun M A E Q h=>by rw[z1];exact wpAny_seqItems (X _ _ z2) z3 (h _ rfl)⟩
 have hbind:BindsTo s (q.fd fn) ⟨vs,kv⟩ (boundOf fn.params vs kv dv):=fun M A E Q hQ=>
  N5 (fd:=q.fd fn) h.2.2.1 h.2.2.2.1 h.2.2.2.2.1 h.2.2.2.2.2.1 h.2.2.2.2.2.2.1 (fun h=>hd.2 _ _ _ _ h) (by rw[←CL.fits fn.params hv hk hd.1];exact hfit) hQ
 have hkws:=hb▸CL.bound fn.params hv hk hd.1
 have hbn:((boundOf fn.params vs kv dv).map (·.1)).Nodup:=J9 F.nodup _ _ _
 have hkinds:∀p∈boundOf fn.params vs kv dv,(p.1,Aq.local)∈fn.scope.names∨(p.1,D9)∈fn.scope.names:=fun p hp=>F.kinds _ (KO hp)
 generalize boundOf fn.params vs kv dv=bv at hbind hkws hbn hkinds
 have sub:=fun n=>Rh F.names n [] Er (fun zz h=>nomatch h)
 refine Zq (name:=q.name) (qual:=q.qual) (params:=q.params) (body:=fn.body) (scope:=fn.scope) (cdv:=q.cdv) (binds:=bv) G.stays R.F R.N G.nolim G.frames (G.ff _ _ _ R.F R.N) (X _ _ h.1) rfl (codeRec_of X h.2.1) hroom hbind
  (fun n x hx=>(hkinds x hx).imp (lookup_nodup F.names) fun h=>⟨lookup_nodup F.names h,AA (NH fn.scope.names n [] h) fun zz hq=>by rw[lookup_nodup (sub n) hq];rfl⟩) (sub 0) (fun g L' h₁ tk cells Fg F₁ N₁ hcells B₁ st₁ hlt=>?_) F.co F.gen F.kind
 generalize henv:envOfC q.qual fn.scope L' (c.af f) q.cdv=env at F₁ hcells
 have ek:∀x,env.kindOf x=fn.scope.names.lookup x:=fun zz=>henv▸rfl
 have ec:env.cells=Ch (L'+1) fn.scope.names []:=henv▸rfl
 have el:L'=env.locals:=henv▸rfl
 have F₁:Fr g env.locals h₁ _:=el▸F₁
 have N₁:News g env.locals h₁ _:=el▸N₁
 have ef:env.frame=some env.locals:=henv▸rfl
 have G':Good (Cb c env g):=⟨G.top,henv▸F.kind,henv▸rfl,henv▸rfl,E6 G.frames,B₁.stays,fun h m news F₂ N=>(groundX (R:=fun zz zz=>True) (s:={s with heap:=h}) (env:=env) B₁ F₂ N (E6 G.frames) (henv▸rfl) (henv▸F.kind)).2.1.frames⟩
 have kind:=fun{x:Str} {z:Aq} (hm:(x,z)∈fn.scope.names)=>(by rw[ek];exact lookup_nodup F.names hm:env.kindOf x=some z)
 refine AA (OV (θ:=c.tp) (J:=c.J) (g:=c.S.glob) (bx:=bx) (bv:=bv) (cm:=fun x=>bv.lookup x) (cells:=cells) (fun x u v zz h=>h) (names:=fn.scope.names) (L'+1) [] st.heap k₁.D R.heap.length fun x a hx hq zz=>?_) fun Dn e=>AA e fun Mn e=>?_
 ·refine AR (CellsAre.at hcells hq) fun ob h1 h2=>⟨ob,h1,h2.trans (congrArg Data.cell ?_)⟩
  show _=bv.lookup x
  rcases eb:bv.lookup x with _|v
  ·exact Ud eb
  ·exact Ue (by rw[kind hx];exact fun z=>nomatch z) hbn v eb
 have l2:BI k₁ ⟨k₁.D++Dn,k₁.I⟩:=⟨fun i d h=>(C6 (AI.mp h).1).trans h,fun zz h=>h⟩
 have hR:Al (Cb c env g).fm ⟨k₁.D++Dn,k₁.I⟩ (entry c.S fn.scope bx st.heap) h₁:=by
  refine⟨_,R.MO++Mn,F₁,fun p hp=>?_,?_,fun x a hx=>?_,e.4 _ _ (hkws.mono l2) (R.heap.mono l2)⟩
  ·exact(BB.mp hp).elim (fun hp=>(BB.mp hp).elim (fun hp=>N₁ p (AX _ (B3 _ hp))) fun hp=>N₁ p (B3 _ (e.1 p hp).1)) fun hp=>N₁ p (AX _ (AX _ hp))
  ·exact FR (M7 ..) (Hp e.2 R.nd fun q hq p hp=>As (Fc (hlt p hp) (e.1 q hq).2))
  ·have db:∀z,(x,z)∈fn.scope.names→(x==("__debug__":Str))=false:=fun z hm=>beq_eq_false_iff_ne.mpr fun e=>F.dbg (e▸BO (f:=(·.1)) hm)
   refine(e.5 x a hx).elim (fun z=>⟨db _ z.1,.inl ⟨kind z.1,?_⟩⟩) fun z=>z.elim (fun z=>⟨db _ z.1,.inr (.inl ⟨kind z.1,z.2,G.top.globSt x a z.2⟩)⟩) fun z=>⟨db _ z.1,.inr (.inr ⟨kind z.1,z.2.elim fun i y=>y.elim fun q y=>⟨i,q,0,y.1,?_,y.2.2⟩⟩)⟩
   ·rw[z.2,Il]
    exact(hkws.look x).elim (fun y=>by rw[y.1];exact⟨rfl,.inl rfl⟩) fun y=>BJ y fun u v h1 h2 h3=>by rw[h1];exact⟨Iv h3,.inr ⟨v,Uc (kind z.1) hbn v h2,h3.mono l2⟩⟩
   ·show env.cells.lookup x=some q
    rw[ec];exact lookup_nodup (sub (L'+1)) y.2.1
 refine IH env g _ G' ⟨⟨c.outer,rfl⟩,ef⟩ _ _ _ (Ho KK) (Hv XX) o _ _ (.refl _) hR P (fun k' fl flow st'' h' tk' l' R'' hcf P'=>?_) fun k' a st'' e h' tk' l' R'' P'=>SL (s:={s with heap:=h',toks:=tk'}) (E6 G.frames) ef R''.fly fun h3 f zz u=>HQ.2 k' a e st''.heap h3 tk' P' (l2.trans l') (R''.out f u st₁ Fg (R.loc.mono (l2.trans l')))
 refine leaveK_ R''.F R''.N fun F' N'=>?_
 have R4:Al c.fm k' ⟨st.loc,st''.heap⟩ h':=⟨R.m,R''.MO,F',N',R''.nd,R.loc.mono (l2.trans l'),R''.heap⟩
 rcases fl with _|_
 case next=>rw[show flow= .next from hcf];exact HQ.1 k' .none _ _ h' tk' P' (l2.trans l') R4 rfl
 case ret v=>exact AR hcf fun w e hc=>by rw[e];exact HQ.1 k' v w _ h' tk' P' (l2.trans l') R4 hc
 all_goals exact P'.elim
section
open Builtin Builtin.ObjectAttr
set_option backward.match.sparseCases false in
noncomputable def Gx (K:Frag)(C:Addr):Bool:=match K.lookup C with
 |some ⟨_,_,.cls cd,sl⟩=> !cd.hasDel&&(sl.toList[4]?).join==some (.builtin "Exception.__new__")&&IU cd.mro&&cd.mro.contains (.ref C)&&cd.mro.contains (.type "Exception")&& !cd.mro.contains (.type "AttributeError")&& !cd.mro.contains (.type "NameError")&&
   specialIn K (.ref C) "__call__"==some (some (.builtin "type.__call__"))&&instIn K (.ref C) (.type "type")==some true&&typeIn K (.ref C)==some (.type "type")&&instIn K (.ref C) (.type "tuple")==some false&&cd.mro.contains (.type "BaseException")
 |_=>false
structure Ic (M:Model)(h:Heap)(C:Addr):Prop where
 obj:∃oc od cd sl,h.get? C=some ⟨oc,od,.cls cd,sl⟩∧cd.hasDel=false∧cd.mro.isEmpty=false
 made:Looks M h (Bind.madeBy (.ref C)) (some "Exception.__new__")
 base:Looks M h (Bind.staticBase (.ref C)) (.ref C)
 self:Looks M h (FY (.ref C) (.ref C)) true
 exc:Looks M h (FY (.ref C) (.type "Exception")) true
 noAttr:Looks M h (FY (.ref C) (.type "AttributeError")) false
 noName:Looks M h (FY (.ref C) (.type "NameError")) false
 call:Looks M h (specialOf (.ref C) "__call__") (some (.builtin "type.__call__"))
 typ:Looks M h (isInstance (.ref C) (.type "type")) true
 ty:Looks M h (isType (.ref C)) true
 metaT:Looks M h (typeOf (.ref C)) (.type "type")
 noTup:Looks M h (isInstance (.ref C) (.type "tuple")) false
 root:Looks M h (FY (.ref C) (.type "BaseException")) true
theorem Mp {K:Frag}{M:Model}{h:Heap}(X:K.In h){C:Addr}(e:Gx K C=true):Ic M h C:=by
 unfold Gx at e
 rcases ho:K.lookup C with _|⟨oc,od,dt,sl⟩<;>rw[ho] at e
 ·exact(AS e).elim
 rcases dt with _|_|_|_|_|_|_|_|⟨cd⟩|_
 case cls=>
  simp only[BV,Ee,beq_iff_eq] at e
  obtain⟨⟨⟨⟨⟨⟨⟨⟨⟨⟨⟨e1,e2⟩,e3⟩,e4⟩,e5⟩,e6⟩,e7⟩,e8⟩,e9⟩,e12⟩,e10⟩,e11⟩:=e
  have ne:=(I8 e3).2.2.2
  have hc:clsIn K C=some cd:=by unfold clsIn;rw[ho]
  have hm:Looks M h (mroOf (.ref C)) cd.mro:=(looks_clsIn X hc).andThen .now
  obtain⟨c,l,hl⟩:∃c l,cd.mro=c::l:=by cases q:cd.mro with|nil=>rw[q] at ne;cases ne|cons c l=>exact⟨c,l,rfl⟩
  have made:Looks M h (Bind.madeBy (.ref C)) (some "Exception.__new__"):=by
   intro A Q E s k q
   unfold Bind.madeBy
   refine AD (hm A _ E s k ?_)
   rw[hl,D1]
   refine AD (AD (AD (AD (wpAny_loadPart (k _ _ (X _ _ ho)) (AJ ?_)))))
   dsimp only
   rw[←Array.getElem?_toList,e2]
   exact AJ (AJ (AJ q))
  have sub:∀b r,cd.mro.contains b=r→Looks M h (FY (.ref C) b) r:=fun b r hr=>looks_mroIn X (by unfold mroIn;rw[hc,Option.bind_some,if_neg (by rw[ne];decide),hr])
  refine⟨⟨oc,od,cd,sl,X _ _ ho,e1,ne⟩,made,?_,sub _ _ e4,sub _ _ e5,sub _ _ e6,sub _ _ e7,looks_specialIn X e8,looks_instIn X e9,?_,looks_typeIn X e12,looks_instIn X e10,sub _ _ e11⟩
  ·intro A Q E s k q
   unfold Bind.staticBase
   refine AD (hm A _ E s k ?_)
   rw[hl,D1]
   exact AD (AD (AD (made A _ E s k (AJ (AJ (AJ q))))))
  ·intro A Q E s k q
   unfold isType
   exact AD (wpAny_load (k _ _ (X _ _ ho)) (AJ q))
 all_goals exact(AS e).elim
section
variable {prog:C0}{w:World}{A:Around}{C:Addr}{R:Result→Shared→Prop}{h:Heap}{g:Array GenState}{d:Drawn}{t:Nat}{os:OsState}
noncomputable def FE (C t:Addr):Obj:={cls:=.ref C,data:=K5 t}
theorem bg {α β γ:Type}{P:α→β→γ→Prop}{a':α}{b':β}{c':γ}(H:P a' b' c'):∀a,a=a'→∀b,b=b'→∀c,c=c'→P a b c:=by intro a h1 b h2 c h3;subst h1 h2 h3;exact H
theorem JQ {α:Type}{M:Model}{c:Prop}[Decidable c]{a b:Sem α}{s:Shared}{Q:α→Shared→Prop}{E:Value→Shared→Prop}(h:¬c)(H:wpAny M A b Q E s):wpAny M A (if c then a else b) Q E s:=by rw[if_neg h];exact H
theorem Se {M:Model}{i B:String}{bm:List Value}(F:ExcBaseFacts B i "Exception.__init__" bm){rest:List Value}{s:Shared}{Q:Unit→Shared→Prop}{E:Value→Shared→Prop}
  (ty:Looks M s.heap (isType (.ref C)) true)(sub:Looks M s.heap (FY (.ref C) (.type B)) true)(base:Looks M s.heap (Bind.staticBase (.ref C)) (.ref C))(made:Looks M s.heap (Bind.madeBy (.ref C)) (some i))(q:Q () s):
  wpAny M A (checkBuiltinCall i ⟨.ref C::rest,[]⟩) Q E s:=by
 have a1:=F.newKind
 have a2:=F.newSplit
 have a3:=F.newRow
 delta checkBuiltinCall
 generalize builtinKind i=a at a1 ⊢
 generalize splitId i=b at a2 ⊢
 generalize Manifest.signature? i=d at a3 ⊢
 revert a b d
 refine bg ?_
 refine AD (ty.here ?_)
 refine AD (sub.here ?_)
 refine AD (base.here ?_)
 refine AD (made.here ?_)
 refine JQ (by rw[bne_self_eq_false];exact AS) ?_
 refine AD (m:=Bind.printed B true _ _) (printed_name F.noStar ?_)
 refine AD (m:=Bind.printed B false _ _) (printed_name F.noStar ?_)
 exact wpAny_onRaise (AJ q)
theorem UK {rest:List Value}(Y:Ic (model prog w) h C)(hz:rest.length≤CM)
  (hq:R (.ok (.ret (.ref (h.objs.size+1)))) ⟨(h.push (HK rest 0)).push (FE C h.objs.size),g,d,t,os⟩):
  Bl (model prog w) A (.call (.builtin "Exception.__new__") ⟨.ref C::rest,[]⟩) R ⟨h,g,d,t,os⟩:=by
 obtain⟨⟨oc,od,cd,sl,hC,e1,e4⟩,made,base,self,exc,na,nn,call,typ,ty,metaT,noTup,root⟩:=Y
 have F:=PySem.F.excBase_Exception
 refine codeAny_call_builtin_code (Code.quiet_builtin _ F.quiet) ?_
 refine Se F ty exc base made ?_
 have hends:=F.ends
 have here:Looks (model prog w) h (Bind.madeHere "BaseException.__new__" (.ref C)) ():=by
  unfold Bind.madeHere
  refine base.andThen (made.andThen (Looks.of_pure ?_))
  rw[Option.map_some,F.canon,bne_self_eq_false];rfl
 refine codeAny_builtinAt F.entry ?_
 unfold DI.«BaseException.__new__»
 refine _root_.PySem.wpAt_bind (wpAt_owner rfl F.ends (wpAt_of_any ?_))
 rw[F.owner]
 refine AD (ty.here ?_)
 refine AD (exc.here ?_)
 refine AD (here.here ?_)
 refine AD (AD (na.here ?_))
 refine AD (nn.here ?_)
 refine AJ ?_
 unfold newTuple
 refine AD (wpAny_newObj_type ?_ (by show rest.toArray.size≤CM;rw[Au];exact hz))
 refine AD ?_
 refine AD ?_
 have hC':=BN (FE C h.objs.size) (BN (HK rest 0) hC)
 unfold classHasDel
 refine wpAny_alloc (AD (AD (wpAny_load hC' (AJ ?_))))
 rw[e1]
 refine AJ (AJ ?_)
 show R _ _
 rw[Heap.size_push]
 exact hq
theorem SN {rest:List Value}{init:Value}(Y:Ic (model prog w) h C)(hz:rest.length≤CM)(hi:Looks (model prog w) h (typeLookup (.ref C) "__init__") (some init))
  (hb:∀self,Looks (model prog w) h (bindSpecial init self) (init,[self]))
  (hq:Bl (model prog w) (A.under (.builtin "type.__call__" ⟨.ref C::rest,[]⟩)) (.call init ⟨.ref (h.objs.size+1)::rest,[]⟩) (InitBack (h.objs.size+1) R) ⟨(h.push (HK rest 0)).push (FE C h.objs.size),g,d,t,os⟩):
  Bl (model prog w) A (.call (.ref C) ⟨rest,[]⟩) R ⟨h,g,d,t,os⟩:=by
 have Y':=Y
 obtain⟨⟨oc,od,cd,sl,hC,e1,e4⟩,made,base,self,exc,na,nn,call,typ,ty,metaT,noTup,root⟩:=Y
 refine codeAny_of_tree ?_
 show wpAny _ _ (callAny (.ref C) _) _ _ _
 refine nd_load hC ?_
 show wpAny _ _ (callAny.viaDunder (.ref C) _) _ _ _
 unfold callAny.viaDunder
 refine AD (call.at ?_)
 dsimp only
 rw[tc_bind]
 refine AD (AJ (AD (AJ ?_)))
 refine AJ (a:=Fin.again (.call (.builtin "type.__call__") ⟨.ref C::rest,[]⟩)) (And.intro rfl ?_)
 refine codeAny_call_builtin_at (Code.quiet_builtin _ (by decide+kernel)) entry_typeCall (check_slot tc_kind tc_split typ (tc_args _ _ _) ?_)
 have hm:Looks (model prog w) h (mroOf (.ref C)) cd.mro:=((Looks.ld (part:=none) hC).andThen .now).andThen .now
 have k:∀b o,h.get? b=some o→((h.push (HK rest 0)).push (FE C h.objs.size)).get? b=some o:=fun b o e=>BN _ (BN _ e)
 have hx:((h.push (HK rest 0)).push (FE C h.objs.size)).get? (h.objs.size+1)=some (FE C h.objs.size):=by heap_get
 have t1:Looks (model prog w) ((h.push (HK rest 0)).push (FE C h.objs.size)) (typeOf (.ref (h.objs.size+1))) (.ref C):=(Looks.ld hx).andThen .now
 refine AD (hm.here ?_)
 refine JQ (by rw[e4];exact AS) ?_
 refine AD (made.here ?_)
 refine AD (AJ ?_)
 refine AD (BA (wpAny_call ?_))
 refine UK Y' hz ?_
 refine AD (Looks.here (t1.andThen (self.keeps k)) ?_)
 refine AD (BA ?_)
 refine AD (Looks.here (t1.andThen (hi.keeps k)) ?_)
 refine BA ?_
 refine AD (((hb _).keeps k).here ?_)
 refine AD (wpAny_call ?_)
 refine codeAny_mono hq fun r s' z=>?_
 rcases r with e|(v|_|_|_)<;>first|exact z|exact z.elim|skip
 obtain⟨rfl,z⟩:=z
 exact AJ (AJ z)
theorem QS {s:Shared}{h₀:Heap}{L:Addr}{m:Str→Option Value}{news:List (Addr×Obj)}{K:Frag}{rest:List Value}{fI:Addr}(F:Fr h₀ L s.heap m)(N:News h₀ L s.heap news)(X:K.In s.heap)(hm:Gx K C=true)(hz:rest.length≤CM)
  (hi:findIn K (.ref C) "__init__"=some (some (.ref fI)))(hf:typeIn K (.ref fI)=some (.type "function"))
  (h:∀x dx h',Fr h₀ L h' m→News h₀ L h' ((x,FE C dx)::(dx,HK rest 0)::news)→(∀p∈news,p.1<dx)→dx<x→
   Bl (model prog w) (A.under (.builtin "type.__call__" ⟨.ref C::rest,[]⟩)) (.call (.ref fI) ⟨.ref x::rest,[]⟩) (InitBack x R) {s with heap:=h'}):
  Bl (model prog w) A (.call (.ref C) ⟨rest,[]⟩) R s:=by
 obtain⟨hh,g,d,t,os⟩:=s
 refine SN (Mp X hm) hz (looks_findIn X hi) (fun self=>bind_fn X self hf) (h _ hh.objs.size _ ((F.push _).push _) ?_ (fun p hp=>B4 (N p hp).1) (Nat.lt_succ_self _))
 have:=(N.push F (HK rest 0)).push (F.push _) (FE C hh.objs.size)
 rwa [Heap.size_push] at this
end
end
structure Ll (θ:Tp)(k:Nat)(q:Fz):Prop where
 makes:Ct θ.S k=false→makesIn θ.K (θ.ac k)=true
 exc:Ct θ.S k=true→Gx θ.K (θ.ac k)=true
 init:findIn θ.K (.ref (θ.ac k)) "__init__"=some (some (.ref (θ.af q.init)))
 fn:typeIn θ.K (.ref (θ.af q.init))=some (.type "function")
 keep:keepIn θ.K (.ref (θ.ac k))=true
noncomputable abbrev IM (c:Cx):Cx:=⟨c.fm,{c.A with depth:=c.A.depth+1,units:=c.A.units+1},c.outer,c.lv⟩
theorem Kr (A:Around)(C:Addr)(vs:List Value)(kv:List (Str×Value)):A.under (.builtin "type.__call__" ⟨.ref C::vs,kv⟩)={A with depth:=A.depth+1,units:=A.units+1}:=by
 obtain⟨hd,dp,fr,gd,un⟩:=A
 rcases gd with _|_<;>rcases fr with _|_<;>rfl
theorem Good.under {c:Cx}(G:Good c):Good (IM c):=⟨G.top,G.kind,G.gl,G.bi,G.frames,G.stays,G.ff⟩
theorem Ra (p1 L p2 J I:Ba):CK ((p1++([]++p2))++(J++(L++I))) ((p1++(L++p2))++(J++I)):=by
 simp only[AB,Dr]
 exact DG p1 ((DG p2 (BE J L I)).trans (BE p2 L (J++I)))
theorem QQ {φ:Fm}{k:Kn}{st:St}{h:Heap}(R:Al φ k st h){i j:Nat}{fs:List (Str×V)}(e:st.heap[i]? =some (.inst j fs)){d:DE}(hd:k.D[i]? =some (some d)){G:Prop}
  (K:∀L o1 dx es n,Al φ ⟨k.D,L++k.I⟩ ⟨st.loc,st.heap.set i .dead⟩ h→(d.1,o1)∈L→(dx,dictOf es n)∈L→Qh φ.tp j o1 dx→F9 φ.tp ⟨k.D,L++k.I⟩ fs es→G):G:=by
 refine D6 (R.heap.split e) fun d' p1 L p2 e1 e2 e3 H=>?_
 refine El (e3.body rfl) fun d₁ hh a ob e4 e5 e6=>?_
 subst e4
 cases AG (AG (hd.symm.trans e1))
 refine AR e6.1 fun o1 g1 g2=>Dm e6.2 fun es n h1 h2=>?_
 have pm:=Ra p1 L p2 φ.J k.I
 rw[←e2] at pm
 have z:=H .dead (some d) [] rfl
 rw[Ln hd] at z
 refine K L o1 a es n ⟨R.m,_,R.F,fun p hp=>R.N p (pm.mem_iff.mp hp),FR pm R.nd,R.loc.mono (BI.more L),z.mono (BI.more L)⟩ ?_ ?_ g2 (h2.mono (BI.more L))
 ·rw[e5,g1];exact .head _
 ·rw[e5,g1,h1];exact .tail _ (.head _)
theorem SC {φ:Fm}{k:Kn}{st:St}{h:Heap}(R:Al φ k st h){i j:Nat}{fs:List (Str×V)}(e:st.heap[i]? =some (.inst j fs)){d:DE}(hd:k.D[i]? =some (some d)){G:Prop}
  (K:∀L,Al φ ⟨k.D,L++k.I⟩ ⟨st.loc,st.heap.set i .dead⟩ h→Ag φ.tp ⟨k.D,L++k.I⟩ (.rcd j fs) (.ref d.1)→G):G:=
 QQ R e hd fun L o1 dx es n R' m1 m2 I F=>K L R' ⟨d.1,dx,es,n,⟨o1,B3 _ m1,I.1⟩,B3 _ m2,F,rfl⟩
theorem Sb {c:Cx}(G:Good c){j:Nat}{q:Fz}(M:Ll c.tp j q)(hq:c.S.cls j=some q){d:Nat}
  {k:Kn}{xs:List V}{vs:List Value}{kx:List (Str×V)}{kv:List (Str×Value)}
  (IH:∀k' i v,BI k k'→Ag c.tp k' (.obj i) v→Eo (IM c) k' (.call (.ref (c.af q.init)) ⟨v::vs,kv⟩) (F0 d q.init (.obj i::xs) kx)):
  Eo c k (.call (.ref (c.ac j)) ⟨vs,kv⟩) (aG c.S d j xs kx):=by
 intro k₁ st s KK XX o Q l R P HQ
 have X:c.K.In s.heap:=G.X.keeps R.F.keep
 have P:Y c.l o (oB (c.S.cls j) _):=P
 rw[hq] at P
 have hE:∀k' a e hp h' tk,Y c.l o (XX a hp)→BI k₁ k'→DC c.fm c.outer k' ⟨st.loc,hp⟩ h' a e→Q (.error (.ref e)) {s with heap:=h',toks:=tk}:=HQ.2
 have P:Y c.l o (match q.kind with
  | .self=>N7 st.heap 0 fun o=>oB (Rt o) fun zz=>F0 d q.init (.obj 0::xs) kx (st.heap.set 0 (.inst j [])) (fun u h=>bif IR u then KK (.obj 0) h else .none) XX
  | .rcd=>F0 d q.init (.obj st.heap.length::xs) kx (st.heap++[.inst j []]) (fun u h'=>bif IR u then aO st.heap.length h' KK else .none) XX
  | .exc=>.none):=P
 have hx:Ct c.S j=false:=by
  unfold Ct;rw[hq]
  show(match q.kind with
   | .exc=>true
   |_=>false)=false
  revert P
  rcases q.kind with _|_<;>first|exact fun zz=>rfl|exact fun P=>P.elim
 refine make_K R.F R.N X (M.makes hx) M.init M.fn fun x dx h' F' N' hlt hxd=>?_
 rw[Kr]
 have hn:(([(x,instObj (c.ac j) dx),(dx,dictOf [] 0)]:Ba).map (·.1)).Nodup:=by
  simp only[An,List.map_nil,C4,Ac,BH,not_false_eq_true,Er,and_true]
  exact CT hxd
 have hf:∀q∈([(x,instObj (c.ac j) dx),(dx,dictOf [] 0)]:Ba),∀p∈R.MO++(c.J++k₁.I),p.1≠q.1:=fun q hq p hp=>(AZ.mp hq).elim (fun e=>by rw[e];exact As (Fc (hlt p hp) hxd)) fun hq=>by rw[Ac.mp hq];exact As (hlt p hp)
 have hb:∀k',JA c.tp c.J k' (.inst j []) (some (x,dx)) [(x,instObj (c.ac j) dx),(dx,dictOf [] 0)]:=fun k'=>⟨(x,dx),[(x,instObj (c.ac j) dx)],dx,_,rfl,rfl,⟨_,rfl,⟨rfl,rfl,rfl⟩,fun z=>by rw[hx] at z;cases z⟩,[],0,rfl,rfl⟩
 revert P
 cases q.kind with
 |exc=>exact fun P=>P.elim
 |rcd=>
  refine fun P=>?_
  refine IH ⟨k₁.D++[some (x,dx)],k₁.I⟩ st.heap.length (.ref x) (l.trans (BI.app _)) (R.newAt (x,dx)) _ ⟨st.loc,st.heap++[.inst j []]⟩ {s with heap:=h'} _ _ o _ (.refl _) (R.push F' N' (hb _) hn hf) P ⟨fun k' v b hp h'' tk P l' R' hc=>?_,fun k' a e hp h'' tk P l' R'=>hE k' a e hp h'' tk P ((BI.app _).trans l') R'⟩
  refine JY P fun hv P=>LD hv fun z=>?_
  subst z
  refine⟨hc,Gc P fun ob e1 P=>Bh P fun p e2 P=>To e2 fun z=>?_⟩
  subst z
  exact SC (d:=(x,dx)) R' e1 (l'.1 _ _ (by rw[R.heap.length];simp)) fun L R2 hc2=>HQ.1 _ (.rcd p.1 p.2) _ _ h'' tk P (((BI.app _).trans l').trans (BI.more L)) R2 hc2
 |self=>
  refine fun P=>Gc P fun ob e1 P=>Bh P fun zz e2 P=>?_
  have e1:st.heap[0]? =some .void:=by rw[e1];rcases ob with _|_<;>first|rfl|exact AU e2
  refine D6 (R.heap.split e1) fun d' p1 L p2 g1 g2 g3 H=>?_
  have g3:d'=none∧L=[]:=g3
  rw[g3.1] at g1
  rw[g3.2] at g2
  have l2:BI k₁ ⟨k₁.D.set 0 (some (x,dx)),k₁.I⟩:=by
   refine⟨fun i d e=>?_,fun zz h=>h⟩
   rw[Ed]
   by_cases z:0=i
   ·subst z;rw[g1] at e;cases e
   ·rw[if_neg z];exact e
  have pm:CK ((p1++([(x,instObj (c.ac j) dx),(dx,dictOf [] 0)]++p2))++(c.J++k₁.I)) ([(x,instObj (c.ac j) dx),(dx,dictOf [] 0)]++(R.MO++(c.J++k₁.I))):=by
   rw[g2]
   exact(CK.append_right _ (BE p1 _ p2)).trans (by simp)
  refine IH ⟨k₁.D.set 0 (some (x,dx)),k₁.I⟩ 0 (.ref x) (l.trans l2) ⟨(x,dx),?_,rfl⟩ _ ⟨st.loc,st.heap.set 0 (.inst j [])⟩ {s with heap:=h'} _ _ o _ (.refl _) ⟨R.m,_,F',fun p hp=>N' p (pm.mem_iff.mp hp),FR pm (Hp hn R.nd hf),R.loc.mono l2,(H (.inst j []) (some (x,dx)) _ (hb _)).mono l2⟩ P ⟨fun k' v b hp h'' tk P l' R' hc=>?_,fun k' a e hp h'' tk P l' R'=>hE k' a e hp h'' tk P (l2.trans l') R'⟩
  ·show(k₁.D.set 0 (some (x,dx)))[0]? =_
   rw[Ed,if_pos rfl,if_pos (AI.mp g1).1]
  refine JY P fun hv P=>LD hv fun z=>?_
  subst z
  refine⟨hc,HQ.1 _ (.obj 0) _ _ h'' tk P (l2.trans l') R' ⟨(x,dx),l'.1 _ _ ?_,rfl⟩⟩
  show(k₁.D.set 0 (some (x,dx)))[0]? =_
  rw[Ed,if_pos rfl,if_pos (AI.mp g1).1]
theorem XQ (p1 p2 J I:Ba)(x y:Addr×Obj):CK ((p1++(([x]++[y])++p2))++(J++I)) (x::((p1++([]++p2))++(J++([y]++I)))):=by
 refine(Ra p1 ([x]++[y]) p2 J I).symm.trans ?_
 have z:=List.perm_middle (a:=x) (l₁:=(p1++([]++p2))++J) (l₂:=y::I)
 rw[AB (p1++([]++p2)),AB (p1++([]++p2))] at z
 exact z
theorem QR {c:Cx}(G:Good c){k:Kn}{st:St}{h:Heap}(R:Al c.fm k st h){i j:Nat}{fs:List (Str×V)}(e:st.heap[i]? =some (.inst j fs)){d:DE}(hd:k.D[i]? =some (some d))(hx:Ct c.S j=true){Z:Prop}
  (K:∀I',DC c.fm c.outer ⟨k.D,I'++k.I⟩ ⟨st.loc,st.heap.set i .dead⟩ h (.rcd j fs) d.1→Z):Z:=by
 refine D6 (R.heap.split e) fun d' p1 L p2 e1 e2 e3 H=>?_
 refine El (e3.body rfl) fun d₁ hh a ob e4 e5 e6=>?_
 subst e4
 cases AG (AG (hd.symm.trans e1))
 refine AR e6.1 fun o1 g1 g2=>Dm e6.2 fun es n h1 h2=>?_
 subst g1 h1
 have z:=H .dead (some d) [] rfl
 rw[Ln hd] at z
 have pm:=XQ p1 p2 c.J k.I (d.1,o1) (a,dictOf es n)
 rw[←e5,←e2] at pm
 have nd:=FR pm.symm R.nd
 have nd':=(C4.mp nd)
 have me:=R.N (d.1,o1) (pm.mem_iff.mpr (.head _))
 have ff:=G.ff _ _ _ R.F R.N
 have frs:∀b∈c.outer.filterMap (·.frame),c.base.get? b=none∧b∉(R.MO++(c.J++k.I)).map (·.1):=fun b hb=>⟨(ff.mem hb).1,fun hm=>by
  obtain⟨_,o,ho,_⟩:=ff.mem hb
  rw[hideAll_none _ hm] at ho;cases ho⟩
 have ff':h.FunFrames c.base c.outer:=ff.of_keeps fun b o hb zz=>⟨o,of_hideAll _ hb,rfl⟩
 have fresh:∀p∈R.MO++(c.J++k.I),c.base.get? p.1=none:=fun p hp=>fresh_of_stays G.stays (R.N p hp).2.2
 obtain⟨t,ht⟩:=g2.2 hx
 refine K [(a,dictOf es n)] ⟨hideAll h (d.1::c.outer.filterMap (·.frame)),R.m,_,j,fs,a,es,n,fun b o hb=>?_,⟨fun b o hb=>of_hideAll _ hb,hideAll_none _ (.head _),funFrames_hide ff' fun env he b hb=>.tail _ (List.mem_filterMap.mpr ⟨env,he,hb⟩),o1,_,me.1,g2.1.1,g2.1.2.1,ht,.inl rfl⟩,fun p hp=>⟨?_,?_⟩,nd'.2,.of_keeps R.F.keep,R.F.ns,R.F.above,R.loc.mono (BI.more _),z.mono (BI.more _),hx,rfl,.head _,h2.mono (BI.more _)⟩
 ·refine hideAll_get _ (R.F.keep _ _ (G.stays _ _ hb)) fun hm=>?_
  rcases AZ.mp hm with rfl|hm
  ·rw[fresh _ (pm.mem_iff.mpr (.head _))] at hb;cases hb
  ·rw[(frs _ hm).1] at hb;cases hb
 ·have hp':=pm.mem_iff.mpr (.tail _ hp)
  refine hideAll_get _ (R.N p hp').1 fun hm=>?_
  rcases AZ.mp hm with e|hm
  ·exact nd'.1 (e▸BO (f:=(·.1)) hp)
  ·exact(frs _ hm).2 (BO (f:=(·.1)) hp')
 ·exact(R.N p (pm.mem_iff.mpr (.tail _ hp))).2.2
theorem UQ {c:Cx}(G:Good c){j:Nat}{q:Fz}(M:Ll c.tp j q)(hq:c.S.cls j=some q){d:Nat}
  {k:Kn}{xs:List V}{vs:List Value}(hz:vs.length≤CM)
  (IH:∀k' i v,BI k k'→Ag c.tp k' (.obj i) v→Eo (IM c) k' (.call (.ref (c.af q.init)) ⟨v::vs,[]⟩) (F0 d q.init (.obj i::xs) []))
  {k₁:Kn}{st:St}{s:Shared}{KK XX:V→List O→Ay}{o:Except V V×List O}{R:Result→Shared→Prop}(l:BI k k₁)(Q:Al c.fm k₁ st s.heap)(P:Y c.l o (QT c.S d j xs st.heap KK XX))
  (H:∀k' a e hp h' tk,BI k₁ k'→DC c.fm c.outer k' ⟨st.loc,hp⟩ h' a e→Y c.l o (XX a hp)→R (.ok (.ret (.ref e))) {s with heap:=h',toks:=tk}):
  Bl c.M c.A (.call (.ref (c.ac j)) ⟨vs,[]⟩) R s:=by
 have X:c.K.In s.heap:=G.X.keeps Q.F.keep
 have P:Y c.l o (oB (c.S.cls j) _):=P
 rw[hq] at P
 have P:Y c.l o (match q.kind with
  | .exc=>F0 d q.init (.obj st.heap.length::xs) [] (st.heap++[.exc j]) (fun u h'=>bif IR u then U9 j st.heap.length h' XX else .none) (fun zz zz=>.none)
  |_=>.none):=P
 have hx:Ct c.S j=true:=by
  unfold Ct;rw[hq]
  show(match q.kind with
   | .exc=>true
   |_=>false)=true
  revert P
  rcases q.kind with _|_<;>first|exact fun zz=>rfl|exact fun P=>P.elim
 have P:Y c.l o (F0 d q.init (.obj st.heap.length::xs) [] (st.heap++[.exc j]) (fun u h'=>bif IR u then U9 j st.heap.length h' XX else .none) (fun zz zz=>.none)):=by
  revert P
  rcases q.kind with _|_<;>first|exact id|exact fun P=>P.elim
 refine QS Q.F Q.N X (M.exc hx) hz M.init M.fn fun x dx h' F' N' hlt hxd=>?_
 rw[Kr]
 have N2:News c.h₀ c.env.locals h' ((x,FE (c.ac j) dx)::(Q.MO++(c.J++k₁.I))):=fun p hp=>(AZ.mp hp).elim (fun e=>e▸N' _ (.head _)) fun hp=>N' _ (.tail _ (.tail _ hp))
 have sep:∀q∈[(x,FE (c.ac j) dx)],∀p∈Q.MO++(c.J++k₁.I),p.1≠q.1:=fun q hq p hp=>by rw[Ac.mp hq];exact As (Fc (hlt p hp) hxd)
 refine IH ⟨k₁.D++[some (x,0)],k₁.I⟩ st.heap.length (.ref x) (l.trans (BI.app _)) (Q.newAt (x,0)) _ ⟨st.loc,st.heap++[.exc j]⟩ {s with heap:=h'} _ _ o _ (.refl _) (Q.push (L:=[(x,FE (c.ac j) dx)]) (o:=.exc j) (d:=some (x,0)) F' N2 ⟨(x,0),[],x,_,rfl,rfl,rfl,rfl,⟨rfl,hx⟩,rfl,dx,rfl⟩ (FC ..) sep) P ⟨fun k' v b hp h'' tk P l' R' hc=>?_,fun k' a e hp h'' tk P l' R'=>?_⟩
 rotate_left
 ·exact False.elim P
 refine JY P fun hv P=>LD hv fun z=>?_
 subst z
 refine⟨hc,Gc P fun ob e1 P=>Bh P fun p e2 P=>To e2 fun z=>JY P fun hj P2=>?_⟩
 subst z
 exact QR G (st:=⟨st.loc,hp⟩) R' e1 (d:=(x,0)) (l'.1 _ _ (by rw[Q.heap.length];simp)) (by rw[Dq hj];exact hx) fun I' R2=>H _ _ _ _ _ _ (((BI.app _).trans l').trans (BI.more I')) R2 P2
structure BS (c:Cx)(d:Nat):Prop where
 g:Good c
 u:c.A.units+8 * d+20≤cLine
 p:c.A.depth+2 * d≤900
 n:nz d=true→c.A.handled=none
 t:d<Gp∨(d=Gp∧c.h₀=c.base)
structure EI (c:Cx)(d:Nat):Prop where
 g:Good c
 u:c.A.units+8 * d+19≤cLine
 p:c.A.depth+2 * d≤901
 n:nz d=true→c.A.handled=none
 t:d≤Gp
theorem BS.one {c:Cx}{d:Nat}(h:BS c d):EI c d:=⟨h.1,by have:=h.2;lia,by have:=h.3;lia,h.4,h.5.elim BU fun z=>Bp z.1⟩
theorem BS.hu {c:Cx}{d:Nat}(h:BS c d):c.A.units+4<cLine:=by have:=h.2;lia
theorem BS.under {c:Cx}{d:Nat}(h:BS c d):EI (IM c) d:=⟨h.1.under,by have:=h.2;show c.A.units+1+8 * d+19≤_;lia,by have:=h.3;show c.A.depth+1+2 * d≤_;lia,h.4,h.5.elim BU fun z=>Bp z.1⟩
structure EV (θ:Tp):Prop where
 sta:Gg θ
 cls:KG θ
 isi:Nc θ
 fn:∀f fn,θ.S.fns f=some fn→fn.sup=none→Ul θ f fn
 keep:∀f,keepIn θ.K (.ref (θ.af f))=true
 keepc:∀k,keepIn θ.K (.ref (θ.ac k))=true
 make:∀k q,θ.S.cls k=some q→Ll θ k q
noncomputable def Jb (c:Cx)(d:Nat):Prop:=∀f k xs vs kx kv,Ap c.tp k xs vs→CL c.tp k kx kv→Eo c k (.call (.ref (c.af f)) ⟨vs,kv⟩) (F0 d f xs kx)
noncomputable def Jc (c:Cx)(k:Kn):Je→Value→List Value→Prop
 | .fn f pre,v,ws=>v= .ref (c.af f)∧Ap c.tp k pre ws
 | .cls j,v,ws=>v= .ref (c.ac j)∧ws=[]
 | .bi n,v,ws=>v= .builtin n∧ws=[]
 | .ty n,v,ws=>v= .type n∧ws=[]
 | .lm n i,v,ws=>v= .builtin n∧Ap c.tp k [.obj i] ws
 | .join s,v,ws=>v= .builtin "str.join"∧Ap c.tp k [.str s] ws
theorem Jc.mono {c:Cx}{k k':Kn}(e:BI k k'){q:Je}{v:Value}{ws:List Value}(h:Jc c k q v ws):Jc c k' q v ws:=by
 rcases q with⟨f,pre⟩|_|_|_|⟨n,i⟩|⟨s⟩
 case fn=>exact⟨h.1,h.2.mono e⟩
 case lm=>exact⟨h.1,h.2.mono e⟩
 case join=>exact⟨h.1,h.2.mono e⟩
 all_goals exact h
theorem CL.nil {θ:Tp}{k:Kn}{kx:List (Str×V)}{kv:List (Str×Value)}(h:CL θ k kx kv)(e:kx.isEmpty=true):kv=[]:=by
 rcases kx with _|_
 ·exact h
 ·cases e
section
variable {c:Cx}{k:Kn}
theorem RM (T:EV c.tp){d:Nat}(G:BS c d)(IH:∀c' d',c'.tp=c.tp→c'.lv=c.lv→EI c' d'→Jb c' d'){q:Je}{f:Value}{ws:List Value}(hq:Jc c k q f ws)
  {xs:List V}{vs:List Value}{kx:List (Str×V)}{kv:List (Str×Value)}(hv:Ap c.tp k xs vs)(hk:CL c.tp k kx kv):AY c k (CV c) (call f (ws++vs) kv) (Lg c.S d q xs kx):=by
 cases q with
 |fn f pre=>exact hq.1▸(IH c d rfl rfl G.one f k _ _ _ _ (hv.append hq.2) hk).call
 |cls j=>
  rw[hq.1,hq.2]
  refine fun k₁ st s K X o Q E l R P HQ HE=>?_
  refine AA (show ∃q,c.S.cls j=some q from Bh P fun q e zz=>⟨q,e⟩) fun q e=>?_
  exact(Sb (k:=k) G.1 (T.make j q e) e fun k' i v l hi=>IH (IM c) d rfl rfl G.under q.init k' _ _ _ _ ⟨v,_,hi,hv.mono l,rfl⟩ (hk.mono l)).call k₁ st s K X o Q E l R P HQ HE
 |bi n=>exact .chk fun e=>have e:=AP.mp e;by rw[hq.1,hq.2,hk.nil e.2];exact XD G.1 (G.4 e.1) T.isi T.sta hv
 |ty n=>exact .chk fun e=>have e:=AP.mp e;by rw[hq.1,hq.2,hk.nil e.2];exact XB G.1 (G.4 e.1) hv
 |lm n i=>exact .chk fun e=>by rw[hq.1,hk.nil e];exact IZ (P:=fun ws=>AY c k (CV c) (call (.builtin n) (ws++vs) []) (VE n i xs)) hq.2 fun x hx=>RE hx hv
 |join s=>exact .chk fun e=>by rw[hq.1,hk.nil e];exact IZ (P:=fun ws=>AY c k (CV c) (call (.builtin "str.join") (ws++vs) []) (NO s xs)) hq.2 fun x hx=>AA (show ∃t,x= .str s t from hx) fun t e=>by rw[e];exact TN hv
theorem GW {e:Expr}(h:noStar e=true)(rest:List Expr)(env:Env):DK (e::rest) env=(false,eval e env)::DK rest env:=by
 rcases e with _|_<;>first|rfl|cases h
theorem Mf {pos:Pos}{env:Env}(as:List Expr):as.all noStar=true→(backTo pos (DK as env)).any (·.1)=false:=by
 induction as with
 |nil=>exact fun zz=>rfl
 |cons e es ih=>
  intro h
  rw[DW,BV] at h
  rw[GW h.1]
  exact ih h.2
theorem Mr {pos:Pos}{env:Env}(ks:List Keyword):ks.all VB=true→(DM pos (CG ks env)).all (·.1.isSome)=true∧(DM pos (CG ks env)).any (·.1.isNone)=false:=by
 induction ks with
 |nil=>exact fun zz=>⟨rfl,rfl⟩
 |cons q ks ih=>
  intro h
  rw[DW,BV] at h
  rcases q with⟨a,e,p⟩
  ·
   rcases a with _|n
   ·exact(AS h.1).elim
   ·exact ih h.2
section
variable {r:GT}{d:Nat}(ev:∀k e,AY c k (CV c) (eval e c.env) (r.ev d e))
include ev
noncomputable abbrev cC (c:Cx)(k:Kn)(a:List V)(v:List Value):Prop:=Ap c.tp k a v
theorem M5 {pos:Pos}(es:List Expr):∀{k:Kn},AY c k (cC c) (spliced (backTo pos (DK es c.env))) (IV r d es):=by
 induction es with
 |nil=>exact .pure fun zz zz=>rfl
 |cons e es ih=>
  refine .chk fun h=>?_
  rw[GW h]
  exact .bind (ev _ e) fun k' a v l hv=>.via [v] (fun Q E s h=>AJ h) (.bind (.hold ih) fun k'' as vs l' hvs=>.pure fun k3 l3=>⟨v,vs,(hv.mono l').mono l3,hvs.mono l3,rfl⟩)
theorem TQ {pos:Pos}(ks:List Keyword):∀{k:Kn},AY c k (fun k (a:List (Str×V)) (vs:List Value)=>CL c.tp k a (((DM pos (CG ks c.env)).filterMap (·.1)).zip vs)) (evalAll ((DM pos (CG ks c.env)).map (·.2))) (Ir r d ks):=by
 induction ks with
 |nil=>exact .pure fun zz zz=>rfl
 |cons q ks ih=>
  rcases q with⟨a,e,p⟩
  ·
   rcases a with _|n
   ·exact .look fun zz e=>AU e
   ·
    intro k
    show AY c k (fun k (a:List (Str×V)) (vs:List Value)=>CL c.tp k a ((n::(DM pos (CG ks c.env)).filterMap (·.1)).zip vs)) (evalAll ((do let v ←eval e c.env;D3 pos;Bn v)::(DM pos (CG ks c.env)).map (·.2))) ((r.ev d e).bind fun v=>(Ir r d ks).bind fun vs=>.pure ((n,v)::vs))
    rw[evalAll]
    exact .bind (m:=r.ev d e) (C:=CV c) (.bind (m:=r.ev d e) (ev _ e) (g:=.pure) fun k' a v l hv=>.stand (.pure fun k3 l3=>hv.mono l3)) fun k' a v l hv=>.bind (.hold ih) fun k'' as vs l' hvs=>.pure fun k3 l3=>⟨v,_,(hv.mono l').mono l3,hvs.mono l3,rfl⟩
theorem KN {γ:Type}{pos:Pos}{f:Value}{first:List Value}{as:List Expr}{ks:List Keyword}(hp:I1 as ks=true){m:List V→List (Str×V)→M γ}
  (hkeep:∀h,c.K.In h→∃q,(q=Keeper.frame∨q=Keeper.machine∨q=G5)∧Looks c.M h (keeperOf f) q)(G:Good c){k₁:Kn}{st:St}{s:Shared}{K:γ→St→Ay}{X:V→St→Ay}{o:Except V V×List O}{Q:Value→Shared→Prop}{E:Value→Shared→Prop}
  (R:Al c.fm k₁ st s.heap)(P:Y c.l o (((IV r d as).bind fun vs=>(Ir r d ks).bind fun kvs=>m vs kvs) st K X))(HE:Fy c k₁ s X o E)
  (h:∀k' xs vs kx kv st' h' tk,BI k₁ k'→Al c.fm k' st' h'→Ap c.tp k' xs vs→CL c.tp k' kx kv→Y c.l o (m xs kx st' K X)→wpAny c.M c.A (call f (first++vs) kv) Q E {s with heap:=h',toks:=tk}):
  wpAny c.M c.A (callWith pos f first (backTo pos (DK as c.env)) (DM pos (CG ks c.env))) Q E s:=by
 have hp:=AP.mp hp
 have h3:=Mr (pos:=pos) (env:=c.env) ks hp.2
 refine callWith_of (P:=fun h=>c.K.In h) (by rw[Mf as hp.1,h3.2];rfl) (fun h X=>hkeep h X) ?_
 have step2:∀{k' xs vs st' h' tk},BI k₁ k'→Al c.fm k' st' h'→Ap c.tp k' xs vs→Y c.l o (((Ir r d ks).bind fun kvs=>m xs kvs) st' K X)→
   wpAny c.M c.A (evalAll ((DM pos (CG ks c.env)).map (·.2))) (fun ws s₂=>c.K.In s₂.heap∧wpAny c.M c.A (call f (first++vs) (((DM pos (CG ks c.env)).filterMap (·.1)).zip ws)) Q E s₂) E {s with heap:=h',toks:=tk}:=fun{k' xs vs st' h' tk} l1 R' hc P'=>
  TQ ev ks (pos:=pos) k' st' {s with heap:=h',toks:=tk} _ X o _ E (.refl _) R' P' (fun k'' kx ws st'' h'' tk'' l2 R'' hk P''=>⟨G.X.keeps R''.F.keep,h k'' xs vs kx _ st'' h'' tk'' (l1.trans l2) R'' (hc.mono l2) hk P''⟩) (HE.ext l1)
 rcases as with _|⟨e,es⟩
 ·exact evalArgs_kw_nil h3.1 (step2 (xs:=[]) (.refl _) R rfl P)
 ·
  have h1:=AP.mp ((DW (f:=noStar)).symm.trans hp.1)
  have e1:backTo pos (DK (e::es) c.env)=(false,eval e c.env)::backTo pos (DK es c.env):=by rw[GW h1.1];rfl
  rw[e1]
  refine evalArgs_kw h3.1 ?_
  rw[←e1]
  exact M5 ev (e::es) (pos:=pos) k₁ st s _ X o _ E (.refl _) R P (fun k' xs vs st' h' tk l1 R' hc P'=>step2 l1 R' hc P') HE
theorem Ny {pos:Pos}{f:Value}{first:List Value}{as:List Expr}{ks:List Keyword}(hp:I1 as ks=true){m:List V→List (Str×V)→M V}
  (hkeep:∀h,c.K.In h→∃q,(q=Keeper.frame∨q=Keeper.machine∨q=G5)∧Looks c.M h (keeperOf f) q)(G:Good c)
  (h:∀k' xs vs kx kv,BI k k'→Ap c.tp k' xs vs→CL c.tp k' kx kv→AY c k' (CV c) (call f (first++vs) kv) (m xs kx)):
  AY c k (CV c) (callWith pos f first (backTo pos (DK as c.env)) (DM pos (CG ks c.env))) ((IV r d as).bind fun vs=>(Ir r d ks).bind fun kvs=>m vs kvs):=
 fun k₁ st s K X o Q E l R P HQ HE=>KN ev hp hkeep G R P HE fun k'' xs vs kx kv st'' h'' tk'' l1 R'' hc hk P''=>h k'' xs vs kx kv (l.trans l1) hc hk k'' st'' _ K X o Q E (.refl _) R'' P'' (HQ.ext l1) (HE.ext l1)
end
theorem AY.operating {α:Type}{C:Kn→α→Value→Prop}{vs:List Value}{t:Sem Value}{m:M α}(h:AY c k C t m):AY c k C (operate vs t) m:=fun k₁ st s K X o Q E l R P HQ HE=>wpAny_operating (h k₁ st s K X o Q E l R P HQ HE)
theorem AY.release {α β:Type}{C:Kn→α→β→Prop}{vs ks:List Value}{f:Unit→Sem β}{m:M α}(h:AY c k C (f ()) m):AY c k C (release vs ks >>= f) m:=.via () (fun zz zz zz h=>wpAny_release h) h
theorem AY.letgo {α β:Type}{C:Kn→α→β→Prop}{b:Expr}{o r:Value}{f:Unit→Sem β}{m:M α}(h:AY c k C (f ()) m):AY c k C (letTemporaryGo b o r >>= f) m:=.via () (fun zz zz zz h=>wpAny_letTemporaryGo h) h
theorem KL {op:CmpOp}{e:Expr}{t:Sem Value}(h:Js e=true):markedBehindIn op e t=t:=by
 refine markedBehindIn_of_false ?_
 rcases e with _|_<;>first|(rcases op with _|_<;>rfl)|cases h
section
variable {r:GT}{d:Nat}(G:BS c d)(T:EV c.tp)(ev:∀k e,AY c k (CV c) (eval e c.env) (r.ev d e))(tr:∀k e,AY c k CB (isTrue e c.env (eval e c.env)) (r.tr d e))
include G T ev in
theorem TV {pos:Pos}{op:BoolOp}(es:List Expr):∀{k:Kn},AY c k (CV c) (boolOp pos op (evalEach es c.env)) (K8 c.S r d op es):=by
 induction es with
 |nil=>exact .stuck
 |cons e es ih=>
  intro k
  rcases es with _|⟨e2,es⟩
  ·exact fun k₁ st s K X o Q E l R P HQ HE=>ev k e k₁ st s K X o Q E l R P HQ HE
  ·
   have H:AY c k (CV c) (eval e c.env >>= fun v=>D3 pos >>= fun zz=>Bx [v] (truthy v) >>= fun t=>match (generalizing:=false) op,t with
    | .And,false| .Or,true=>Bn v
    |_,_=>boolOp pos op (evalEach (e2::es) c.env)) ((r.ev d e).bind fun v=>(IN c.S v).bind fun t=>match (generalizing:=false) op with
    | .Or=>Ej t (.pure v) (K8 c.S r d op (e2::es))
    | .And=>Ej t (K8 c.S r d op (e2::es)) (.pure v)):=by
    refine .bind (ev k e) fun k' a v l hv=>.stand (.bind (.hold (JG G.1 T.sta hv)) fun k'' t t' l' ht=>?_)
    cases (show t=t' from ht)
    rcases op with _|_<;>cases t
    ·exact .pure fun k3 l3=>(hv.mono l').mono l3
    ·exact ih
    ·exact ih
    ·exact .pure fun k3 l3=>(hv.mono l').mono l3
   rcases op with _|_<;>exact H
include tr in
theorem RN {op:BoolOp}(es:List Expr):∀{k:Kn},AY c k CB (allTrue op es c.env) (Hf r d op es):=by
 induction es with
 |nil=>rcases op with _|_<;>exact .pure fun zz zz=>rfl
 |cons e es ih=>
  intro k
  have H:AY c k CB (isTrue e c.env (eval e c.env) >>= fun t=>match (generalizing:=false) op,t with
   | .And,false=>Bn false
   | .Or,true=>Bn true
   |_,_=>allTrue op es c.env) ((r.tr d e).bind fun t=>match (generalizing:=false) op with
   | .Or=>Ej t (.pure true) (Hf r d op es)
   | .And=>Ej t (Hf r d op es) (.pure false)):=by
   refine .bind (tr k e) fun k' t t' l ht=>?_
   cases (show t=t' from ht)
   rcases op with _|_<;>cases t
   ·exact .pure fun zz zz=>rfl
   ·exact ih
   ·exact ih
   ·exact .pure fun zz zz=>rfl
  rcases op with _|_<;>exact H
include G T ev in
theorem RI {pos:Pos}(ops:List CmpOp):∀(es:List Expr) {a:V} {x:Value} {k:Kn},Ag c.tp k a x→AY c k Jg (compareChain pos x ops (markedEach ops es (evalEach es c.env))) (Gb c.S r d a ops es):=by
 induction ops with
 |nil=>exact fun zz {zz zz zz} zz=>.stuck
 |cons op ops ih=>
  intro es a x k h
  rcases es with _|⟨e,es⟩
  ·exact .stuck
  ·
   rw[Pg]
   refine .chk fun hs=>?_
   rcases ops with _|⟨op2,ops⟩
   ·
    rcases es with _|_
    ·
     show AY c k Jg (compareChain pos x [op] [markedBehindIn op e (eval e c.env)]) _
     rw[KL (AP.mp hs).1]
     show AY c k Jg (Bx [x] (eval e c.env) >>= fun rv=>D3 pos >>= fun zz=>operate [x,rv] (CJ op x rv)) ((r.ev d e).bind fun b=>(Kg c.S op a b).bind .pure)
     exact .bind (.hold (ev k e)) fun k' b y l hb=>.stand (.operating (Jl G.1 G.hu T.sta (h.mono l) hb))
    ·exact(AS ((Bool.and_false _).symm.trans hs)).elim
   ·
    show AY c k Jg (Bx [x] (eval e c.env) >>= fun rv=>D3 pos >>= fun zz=>Bx [x,rv] (CJ op x rv) >>= fun q=>release [x,rv] [q] >>= fun zz=>Bx [q,rv] (truthy q) >>= fun t=>if t=true then compareChain pos rv (op2::ops) (markedEach (op2::ops) es (evalEach es c.env)) else Bn q) ((r.ev d e).bind fun b=>(Kg c.S op a b).bind fun t=>Ej t (Gb c.S r d b (op2::ops) es) (.pure false))
    refine .bind (.hold (ev k e)) fun k' b y l hb=>.stand (.bind (.hold (Jl G.1 G.hu T.sta (h.mono l) hb)) fun k'' t q l' hq=>.release ?_)
    rw[show q= .bool t from hq]
    refine .via t (fun Q E s h=>BA (G0 h)) ?_
    cases t
    ·exact .pure fun zz zz=>rfl
    ·exact ih es (hb.mono l')
end
end
section
variable {prog:C0}{w:World}{K:Type}[DecidableEq K]{knd:KeyKind prog w K}{A:Around}{E:Value→Shared→Prop}{s:Shared}
theorem JB {d:Addr}{kvs:List (K×Value)}{k:K}{key v:Value}{Q:Unit→Shared→Prop}(hkey:knd.is k key=true)(hm:s.heap.DictOf knd d kvs)
  (hQ:∀h',h'.DictOf knd d (stored kvs k v)→Bd d s.heap h'→Q () {s with heap:=h'})
  (hsz:kvs.length≤CM):wpAny (model prog w) A (dictPut d (knd.hash k) key v) Q E s:=by
 obtain⟨o,es,ep,ho,hc,hd,hk,hp,hn⟩:=hm
 have hes:es.size≤CM:=by
  have e1:=hp.length
  have e2:es.toList.length=es.size:=Da
  lia
 unfold dictPut
 refine AD (wpAny_dictFind_of hkey ho hd hk ?_)
 have hidx:(es.findIdx? fun e=>knd.is k e.key)=kvs.findIdx? fun kv=>decide (kv.1=k):=by
  rw[←hp.findIdx k];obtain⟨l⟩:=es;simp
 cases hi:es.findIdx? fun e=>knd.is k e.key with
 |some i=>
  refine wpAny_updateDict ho hd (hQ _ ⟨_,_,ep,DH _ ho (Obj.isFreed_of_dict (Obj.data_mapDict hd _)),hc.mapDict _,Obj.data_mapDict hd _,hk.modify _ _,?_,?_⟩ (Bd.update ..))
  ·rw[stored,if_pos (any_of_findIdx_some (hidx▸hi))]
   have hl:(es.toList.findIdx? fun e=>knd.is k e.key)=some i:=by rw[←hi];obtain⟨l⟩:=es;simp
   have:=hp.modify hn hl v
   obtain⟨l⟩:=es
   simpa using this
  ·rw[stored,if_pos (any_of_findIdx_some (hidx▸hi)),keys_map_store];exact hn
 |none=>
  have hnot:k∉kvs.map (·.1):=not_mem_of_findIdx_none (hidx▸hi)
  have hany:¬(kvs.any fun kv=>decide (kv.1=k))=true:=by
   rw[List.any_eq_true];rintro⟨kv,hkv,he⟩
   exact hnot (Bq.mpr ⟨kv,hkv,of_decide_eq_true he⟩)
  refine wpAny_updateDictKeys (hz:=hes) ho hd (hQ _ ⟨_,_,ep+1,DH _ ho (Obj.isFreed_of_dict (Obj.data_mapDictKeys hd _)),hc.mapDictKeys _,Obj.data_mapDictKeys hd _,hk.push hkey _,?_,?_⟩ (Bd.update ..))
  ·rw[stored,if_neg hany]
   have:=hp.append hkey (knd.hash k) v
   obtain⟨l⟩:=es
   simpa using this
  ·rw[stored,if_neg hany,Aa,CC]
   refine⟨hn,by simp,?_⟩
   intro a ha b hb
   simp only[An,List.map_nil,Ac] at hb
   subst hb
   exact fun e=>hnot (e▸ha)
theorem QH {d o:Addr}{kvs more:List (K×Value)}{Q:Unit→Shared→Prop}(hdo:d≠o)(hoS:(o==Cp)=false)(hne:kvs≠[])
  (hd:s.heap.DictOf knd d kvs)(ho:s.heap.DictOf knd o more)
  (hQ:∀h',h'.DictOf knd d (merged kvs more)→Bd d s.heap h'→Q () {s with heap:=h'})
  (hsz:kvs.length+more.length≤CM):wpAny (model prog w) A (mergeMapping d (.ref o) false) Q E s:=by
 refine SS (id hd) fun od esd epd hod hcd hdd hkd hpd hnd=>?_
 refine SS (id ho) fun oo eso epo hoo hco hdo' hko hpo hno=>?_
 have hlen:more.length=eso.size:=by rw[←hpo.length];simp
 have hne':esd.isEmpty=false:=by
  have e1:=hpd.length
  rcases h:esd.isEmpty with _|_
  ·rfl
  ·
   rw[Array.isEmpty_iff.mp h] at e1
   exact(hne (By.mp e1.symm)).elim
 refine AD (AD (wpAny_typeOf ho.typeIs (Dh (a:=true) (by kernel_rfl) ?_)))
 refine AD (wpAny_specialOf ho.typeIs F.slot_dict_iter.lookup ?_)
 refine AD (AJ ?_)
 refine JQ (by rw[hoS];exact AS) ?_
 refine AD (wpAny_dictEntries hod hdd ?_)
 refine JQ (by rw[hne'];exact AS) ?_
 refine AD (wpAny_dictEntries hoo hdo' ?_)
 refine AD (wpAny_dictEpoch hoo hdo' ?_)
 rw[List.range_eq_range']
 refine AD (wpAny_forIn_list _
  (fun rest zz s'=>∃h' i,s'={s with heap:=h'}∧rest=List.range' i (eso.size - i)∧i≤eso.size∧h'.DictOf knd d (merged kvs (more.take i))∧h'.get? o=some oo∧Bd d s.heap h')
  _ ?_ ?_ _ _ ⟨s.heap,0,rfl,by simp,BX _,by simpa [merged] using hd,hoo,Bd.refl _ _⟩)
 ·intro x rest b s' H
  refine SV H fun h' i es hr hi hd' hoo' hs'=>?_
  subst es
  have hlt:i<eso.size:=by
   rcases Nat.lt_or_ge i eso.size with h|h
   ·exact h
   ·rw[Nat.sub_eq_zero_of_le h] at hr;simp at hr
  have hx:x=i∧rest=List.range' (i+1) (eso.size - (i+1)):=by
   have e:eso.size - i=(eso.size - (i+1))+1:=(Nat.succ_pred_eq_of_pos (Nat.sub_pos_of_lt hlt)).symm
   rw[e,List.range'_succ] at hr
   exact⟨List.head_eq_of_cons_eq hr,List.tail_eq_of_cons_eq hr⟩
  have hrest:=hx.2
  have hx:=hx.1
  subst hx
  refine AD (wpAny_dictEntries hoo' hdo' ?_)
  rw[Array.getElem?_eq_getElem hlt]
  refine AA (⟨more[x]'(by rw[hlen];exact hlt),DO _⟩:∃kv,more[x]? =some kv) fun kv hkv=>?_
  rcases kv with⟨k,v⟩
  have hkv2:=hpo.get? (e:=eso[x]) (by simp[hlt]) hkv
  refine AR (hko eso[x] (Array.getElem_mem hlt)) fun k' hkey' hhash=>?_
  have hk:=knd.inj _ _ _ hkey' hkv2.1
  subst hk
  show wpAny _ _ (Bx [eso[x].key,eso[x].val] (dictPut d eso[x].hash eso[x].key eso[x].val) >>= _) _ _ _
  rw[hhash,hkv2.2]
  have hmx:(merged kvs (more.take x)).length≤CM:=AM (merged_length_le kvs (more.take x)) (AM (FO (List.length_take_le' ..) _) hsz)
  refine AD (BA (JB (hsz:=hmx) hkey' hd' fun h'' hd'' hs''=>?_))
  have hoo'':h''.get? o=some oo:=(hs''.2 o (DS hdo)).trans hoo'
  refine AD (wpAny_dictEpoch hoo'' hdo' ?_)
  refine JQ (by rw[bne_self_eq_false];exact AS) ?_
  exact AJ ⟨h'',x+1,rfl,hrest,hlt,by rw[merged_take_succ kvs more x (k',v) hkv];exact hd'',hoo'',hs'.trans hs''⟩
 ·intro b s' H
  refine SV H fun h' i es hr hi hd' hoo' hs'=>?_
  subst es
  have hin:i=eso.size:=by
   rcases Nat.lt_or_ge i eso.size with h|h
   ·have e:eso.size - i=(eso.size - (i+1))+1:=(Nat.succ_pred_eq_of_pos (Nat.sub_pos_of_lt h)).symm
    rw[e,List.range'_succ] at hr;exact nomatch hr
   ·exact FT hi h
  refine AJ (hQ h' ?_ hs')
  rw[hin,←hlen,List.take_length] at hd';exact hd'
end
theorem He {prog:C0}{w:World}{A:Around}{env:Env}{q:Const}{n:Nat}{pos:Pos}{x:V}{s:Shared}{Q:Value→Shared→Prop}{E:Value→Shared→Prop}(e:Hw q=some x)
  (h:∀v tk,(∀θ k,Ag θ k x v)→Q v {s with toks:=tk}):wpAny (model prog w) A (eval (.Constant q n pos) env) Q E s:=by
 rcases q with _|_|⟨b⟩|⟨i⟩|⟨t⟩|_
 case none=>exact wpAny_Constant_none (h _ s.toks fun zz zz=>AG e▸rfl)
 case bool=>exact wpAny_Constant_bool (h _ s.toks fun zz zz=>AG e▸rfl)
 case int=>exact wpAny_Constant_int (h _ _ fun zz zz=>AG e▸⟨_,rfl⟩)
 case str=>exact wpAny_Constant_str (h _ _ fun zz zz=>AG e▸⟨_,rfl⟩)
 all_goals exact AU e
theorem Od {e:Expr}{x:V}(h:JV e=some x){P:Expr→Prop}(H:∀q n p,Hw q=some x→P (.Constant q n p)):P e:=by
 rcases e with _|_|_|_|_|_|_|_|_|_|_|_|_|_|_|_|_|_|_|⟨q,n,p⟩|_
 case Constant=>exact H q n p h
 all_goals exact AU h
theorem MN {o:Option Expr}{ks:List (Option Expr)}{e:Expr}{vs:List Expr}{l:List (Str×V)}(h:Fk (o::ks) (e::vs)=some l){P:Option Expr→Expr→List (Str×V)→Prop}
  (H:∀q n p q' n' p' i b l',Hw q=some (.str i)→Hw q'=some b→Fk ks vs=some l'→P (some (.Constant q n p)) (.Constant q' n' p') ((i,b)::l')):P o e l:=by
 refine AR (Af.mp h) fun a e1 h=>AR (Af.mp h) fun i e2 h=>AR (Af.mp h) fun b e3 h=>AR (Ar.mp h) fun l' e4 e5=>F3 e2 fun z=>?_
 subst z e5
 rcases o with _|e0
 ·exact AU e1
 ·exact Od (P:=fun e0=>P (some e0) e ((i,b)::l')) e1 fun q n p e1=>Od (P:=fun e=>P (some (.Constant q n p)) e ((i,b)::l')) e3 fun q' n' p' e3=>H q n p q' n' p' i b l' e1 e3 e4
theorem IB {ks:List (Option Expr)}:∀{vs:List Expr} {l:List (Str×V)},Fk ks vs=some l→ks.all (·.isSome)=true∧ks.length=vs.length∧l.length=ks.length:=by
 induction ks with
 |nil=>
  intro vs l e
  rcases vs with _|_
  ·exact AG e▸⟨rfl,rfl,rfl⟩
  ·exact AU e
 |cons o ks ih=>
  intro vs l e
  rcases vs with _|⟨v,vs⟩
  ·exact AU e
  ·exact MN (P:=fun o v l=>(o::ks).all (·.isSome)=true∧(o::ks).length=(v::vs).length∧l.length=(o::ks).length) e fun q n p q' n' p' i b l' zz zz e=>⟨(ih e).1,congrArg (·+1) (ih e).2.1,congrArg (·+1) (ih e).2.2⟩
theorem J7 (f:(Option (Sem Value)×Sem Value)→(Option Addr×List (Sem Value×Sem Value))→Sem (ForInStep (Option Addr×List (Sem Value×Sem Value))))(tail:List (Option (Sem Value)×Sem Value))
  (hf:∀(m:Option Addr) (p:Sem Value×Sem Value) (run:List (Sem Value×Sem Value)),run.length+1<17→f (some p.1,p.2) (m,run)=pure (.yield (m,run++[p])))(m:Option Addr)(items:List (Sem Value×Sem Value)):
  ∀(run:List (Sem Value×Sem Value)),run.length+items.length<17→forIn ((items.map fun p=>(some p.1,p.2))++tail) (m,run) f=forIn tail (m,run++items) f:=by
 induction items with
 |nil=>exact fun run zz=>by rw[AK];rfl
 |cons p rest ih=>
  intro run h
  rw[AQ] at h
  rw[An,B0,D1,hf m p run (by lia),pure_bind]
  have:=ih (run++[p]) (by rw[AF,BZ];lia)
  rwa [AB] at this
theorem MP (pairs more:List (Sem Value×Sem Value))(hlen:pairs.length=17)(hm:more.length<17):dictDisplay ((pairs++more).map fun p=>(some p.1,p.2))=
  (do
    let d ←subDict pairs
    if more=[] then pure (.ref d) else do
    let sub ←Bx [.ref d] (subDict more)
    (Bx [.ref d,.ref sub] (mergeMapping d (.ref sub) false)).onRaise fun x=>do let _ ←Bx [.ref d,x] (runValue (.builtin "proto.let_go" {}))
    pure (.ref d)):=by
 have hne:pairs≠[]:=fun z=>by subst z;cases hlen
 have hi:pairs.dropLast.length=16:=by rw[List.length_dropLast,hlen]
 rw[←List.dropLast_concat_getLast hne]
 generalize pairs.dropLast=init at hi
 generalize pairs.getLast hne=x
 have hf:∀(run:List (Sem Value×Sem Value)) (p:Sem Value×Sem Value),run.length+1<17→((run++[(p.1,p.2)]).length==17)=false:=fun run p h=>by simp;lia
 unfold dictDisplay
 dsimp only
 rw[AB,Aa,J7 _ _ (fun m p run h=>by
  simp only[hf run p h,Cm,if_false]) none init [] (by rw[BR];lia)]
 rw[Dr,Aa,An,List.map_nil,List.singleton_append,D1]
 have e17:((init++[(x.1,x.2)]).length==17)=true:=by simp[hi]
 have en:(init++[(x.1,x.2)]).isEmpty=false:=by simp
 simp only[e17,en,if_true,Cm,if_false,bind_assoc,pure_bind]
 refine bind_congr fun d=>?_
 rw[←AK (more.map _),J7 _ [] (fun m p run h=>by
  simp only[hf run p h,Cm,if_false]) (some d) more [] (by rw[BR];lia)]
 rw[List.forIn_nil,pure_bind,Dr]
 by_cases hm:more=[]
 ·subst hm;rfl
 ·have hm':more.isEmpty=false:=by cases more with
   |nil=>exact(hm rfl).elim
   |cons=>rfl
  simp only[hm',hm,Cm,if_false,bind_assoc,pure_bind]
section
variable {c:Cx}{k:Kn}
theorem Os (θ₀:Tp){env:Env}{pos:Pos}{E:Value→Shared→Prop}(ks:List (Option Expr)):∀(vs:List Expr) (l:List (Str×V)) (s:Shared) (Q:List (Value×Value)→Shared→Prop),Fk ks vs=some l→
  (∀us kvs tk,Carries (Db c.prog c.w) us kvs→(∀θ k,Kv V.str θ k (HG l) kvs)→Q us {s with toks:=tk})→wpAny c.M c.A (evalPairs (E7 ks vs env pos)) Q E s:=by
 induction ks with
 |nil=>
  intro vs l s Q e h
  rcases vs with _|_
  ·exact pairTrees_nil_walk (h [] [] s.toks trivial fun zz zz=>AG e▸rfl)
  ·exact AU e
 |cons o ks ih=>
  intro vs l s Q e h
  rcases vs with _|⟨v,vs⟩
  ·exact AU e
  ·
   revert h
   refine MN (P:=fun o v l=>(∀us kvs tk,Carries (Db c.prog c.w) us kvs→(∀θ k,Kv V.str θ k (HG l) kvs)→Q us {s with toks:=tk})→wpAny c.M c.A (evalPairs (E7 (o::ks) (v::vs) env pos)) Q E s) e fun q n p q' n' p' i b l' e1 e2 e3 h=>?_
   refine pairTrees_cons_walk (He e1 fun kv tk hk=>He e2 fun vv tk' hv=>ih vs l' _ _ e3 fun us kvs tk2 hc hkv=>?_)
   exact AA (show ∃t,kv= .str i t from hk θ₀ ⟨[],[]⟩) fun t z=>by rw[z];exact h ((.str i t,vv)::us) ((i,vv)::kvs) tk2 ⟨strKind_is ..,rfl,hc⟩ fun θ k=>⟨i,vv,kvs,rfl,hv θ k,hkv θ k,rfl⟩
theorem QA (θ₀:Tp){env:Env}{pos:Pos}{E:Value→Shared→Prop}{d:Addr}(ks:List (Option Expr)):∀(vs:List Expr) (l:List (Str×V)) (acc:List (Str×Value)) (s:Shared) (Q:PUnit→Shared→Prop),Fk ks vs=some l→
  s.heap.DictOf (Db c.prog c.w) d acc→acc.length+l.length≤CM→(∀h' kvs tk,(∀θ k,Kv V.str θ k (HG l) kvs)→h'.DictOf (Db c.prog c.w) d (merged acc kvs)→Bd d s.heap h'→Q Fq {s with heap:=h',toks:=tk})→
  wpAny c.M c.A (forIn (E7 ks vs env pos) Fq fun(x:Sem Value×Sem Value) (zz:PUnit)=>(do let kv ←x.1;let vv ←Bx [kv] x.2;Bx [kv,vv] (dictSet d kv vv);pure (DP Fq):Sem (ForInStep PUnit))) Q E s:=by
 induction ks with
 |nil=>
  intro vs l acc s Q e hd _ h
  rcases vs with _|_
  ·exact AJ (h s.heap [] s.toks (fun zz zz=>AG e▸rfl) hd (.refl _ _))
  ·exact AU e
 |cons o ks ih=>
  intro vs l acc s Q e hd hsz h
  rcases vs with _|⟨v,vs⟩
  ·exact AU e
  ·
   revert h hsz
   refine MN (P:=fun o v l=>acc.length+l.length≤CM→(∀h' kvs tk,(∀θ k,Kv V.str θ k (HG l) kvs)→h'.DictOf (Db c.prog c.w) d (merged acc kvs)→Bd d s.heap h'→Q Fq {s with heap:=h',toks:=tk})→wpAny c.M c.A (forIn (E7 (o::ks) (v::vs) env pos) Fq fun(x:Sem Value×Sem Value) (zz:PUnit)=>(do let kv ←x.1;let vv ←Bx [kv] x.2;Bx [kv,vv] (dictSet d kv vv);pure (DP Fq):Sem (ForInStep PUnit))) Q E s) e fun q n p q' n' p' i b l' e1 e2 e3 hsz h=>?_
   show wpAny c.M c.A (forIn (_::E7 ks vs env pos) Fq _) Q E s
   rw[D1]
   rw[AQ] at hsz
   refine AD (AD (He (n:=n) (pos:=p) e1 fun kv tk hk=>AD (BA (AD (He (n:=n') (pos:=p') e2 fun vv tk' hv=>AD (Bz (AJ ?_)))))))
   refine AA (show ∃t,kv= .str i t from hk θ₀ ⟨[],[]⟩) fun t z=>?_
   subst z
   refine AD (BA (wpAny_dictSet_pairs (hsz:=by lia) (strKind_is ..) hd fun h₁ hm₁ hs₁=>AJ ?_))
   refine ih vs l' (stored acc i vv) _ Q e3 hm₁ (by have e:=stored_length_le acc i vv;lia) fun h' kvs tk2 hkv hm' hs'=>?_
   exact h h' ((i,vv)::kvs) tk2 (fun θ k=>⟨i,vv,kvs,rfl,hv θ k,hkv θ k,rfl⟩) hm' (hs₁.trans hs')
theorem Kl {l:List (Str×V)}:∀{kvs:List (Str×Value)},Kv V.str c.tp k (HG l) kvs→kvs.map (·.1)=l.map (·.1):=by
 induction l with
 |nil=>exact fun h=>by rw[show _=[] from h];rfl
 |cons p l ih=>
  intro kvs h
  refine Em h fun j v us h1 h2 h3 h4=>?_
  subst h4
  rw[An,An,ih h3,show p.1=j from AG (congrArg D7 h1)]
theorem Xh {l l':List (Str×V)}:∀{kvs kvs':List (Str×Value)},Kv V.str c.tp k (HG l) kvs→Kv V.str c.tp k (HG l') kvs'→Kv V.str c.tp k (HG (l++l')) (kvs++kvs'):=by
 induction l with
 |nil=>exact fun h h'=>by rw[show _=[] from h];exact h'
 |cons p l ih=>
  intro kvs kvs' h h'
  refine Em h fun j v us h1 h2 h3 h4=>?_
  subst h4
  exact⟨j,v,us++kvs',h1,h2,ih h3 h',rfl⟩
theorem Ov {k1 k2:List (Option Expr)}:∀{vs:List Expr} {l:List (Str×V)},Fk (k1++k2) vs=some l→∃v1 v2 l1 l2,vs=v1++v2∧l=l1++l2∧Fk k1 v1=some l1∧Fk k2 v2=some l2:=by
 induction k1 with
 |nil=>exact fun{vs l} h=>⟨[],vs,[],l,rfl,rfl,rfl,h⟩
 |cons o k1 ih=>
  intro vs l h
  rcases vs with _|⟨v,vs⟩
  ·exact AU h
  ·
   refine AR (Af.mp h) fun a e1 h=>AR (Af.mp h) fun i e2 h=>AR (Af.mp h) fun b e3 h=>AR (Ar.mp h) fun l' e4 e5=>?_
   refine AA (ih e4) fun v1 z=>Em z fun v2 l1 l2 g1 g2 g3 g4=>⟨v::v1,v2,(i,b)::l1,l2,by rw[g1];rfl,by rw[←e5,g2];rfl,?_,g4⟩
   show(o.bind JV).bind _=_
   rw[e1]
   show(D7 a).bind _=_
   rw[e2]
   show(JV v).bind _=_
   rw[e3]
   show(Fk k1 v1).map _=_
   rw[g3];rfl
theorem NE {env:Env}{pos:Pos}{k1 k2:List (Option Expr)}:∀{v1 v2:List Expr},k1.all (·.isSome)=true→k1.length=v1.length→E7 (k1++k2) (v1++v2) env pos=E7 k1 v1 env pos++E7 k2 v2 env pos:=by
 induction k1 with
 |nil=>
  intro v1 v2 _ h
  rcases v1 with _|_
  ·rfl
  ·cases h
 |cons o k1 ih=>
  intro v1 v2 h1 h2
  rcases v1 with _|⟨v,v1⟩
  ·cases h2
  ·
   rcases o with _|e
   ·cases h1
   ·exact congrArg (_::·) (ih h1 (Nat.succ.inj h2))
noncomputable def L5 (G:Good c){st:St}{s:Shared}{h':Heap}(R:Al c.fm k st s.heap)(hk:∀b o,s.heap.get? b=some o→h'.get? b=some o){kvs:List (Str×Value)}{o:O}{ob:Obj}(hlo:live o=true)
  (ho:h'.get? s.heap.objs.size=some ob)(hb:(s.heap.objs.size==Cp)=false→GP c.tp k o (s.heap.objs.size,0) [] s.heap.objs.size ob):Al c.fm ⟨k.D++[some (s.heap.objs.size,0)],k.I⟩ ⟨st.loc,st.heap++[o]⟩ h':=by
 have LT:c.env.locals<s.heap.objs.size:=R.F.ns.lt
 have hm:(s.heap.objs.size==Cp)=false:=beq_eq_false_iff_ne.mpr fun z=>absurd (Am (modules_low G.nolim) R.F.above) (by rw[←z];exact Fs.mpr (BU LT))
 refine R.push (o:=o) (d:=some (s.heap.objs.size,0)) (L:=[(s.heap.objs.size,ob)]) (R.F.keeps hk) (fun p hp=>?_) (hb hm).row (FC ..) fun q hq p hp=>?_
 ·exact(AZ.mp hp).elim (fun e=>by rw[e];exact⟨ho,CT LT,none_at_size R.F⟩) fun hp=>⟨hk _ _ (R.N p hp).1,(R.N p hp).2⟩
 ·rw[Ac.mp hq]
  exact As (B4 (R.N p hp).1)
theorem KR (θ₀:Tp){ks:List (Option Expr)}{vs:List Expr}{l:List (Str×V)}{env:Env}{pos:Pos}{s:Shared}{E:Value→Shared→Prop}{Q:Addr→Shared→Prop}(e:Fk ks vs=some l)(hn:ks.length≤17)
  (h:∀h' kvs tk,(∀θ k,Kv V.str θ k (HG l) kvs)→h'.DictOf (Db c.prog c.w) s.heap.objs.size (merged [] kvs)→Bd s.heap.objs.size (s.heap.push {cls:=.type "dict",data:=.dict #[]}) h'→Q s.heap.objs.size {s with heap:=h',toks:=tk}):
  wpAny c.M c.A (subDict (E7 ks vs env pos)) Q E s:=by
 have hl:=IB e
 have hp:=pairTrees_length ks vs env pos hl.1 hl.2.1
 have big:1000≤CM:=by rw[sizeLine_eq];lia
 have hl2:l.length≤17:=by rw[hl.2.2];exact hn
 unfold subDict
 refine AD (wpAny_alloc (AD (BA ?_)))
 by_cases hn:(E7 ks vs env pos).length≤15
 ·rw[if_pos hn]
  refine AD (Os (c:=c) θ₀ ks vs l _ _ e fun us kvs tk hc hkv=>BA (AD (wpAny_storeAll us kvs [] _ _ hc (Heap.DictOf.new s.heap) ?_ fun h' hm' hs=>AJ (AJ (h h' kvs _ hkv hm' hs)))))
  have:=(hkv θ₀ ⟨[],[]⟩).length
  rw[show(HG l).length=l.length from AH _] at this
  rw[BR];lia
 ·rw[if_neg hn]
  exact AD (wpAny_rule (AD (QA (c:=c) θ₀ ks vs l [] _ _ e (Heap.DictOf.new s.heap) (by rw[BR];lia) fun h' kvs tk hkv hm' hs=>AJ (AJ (h h' kvs tk hkv hm' hs)))))
theorem TR (G:Good c){ks:List (Option Expr)}{vs:List Expr}{pos:Pos}:AY c k (CV c) (eval (.Dict ks vs pos) c.env) (dictM ks vs):=by
 rcases ks with _|⟨k0,ks'⟩
 ·
  refine .chk fun hv=>fun k₁ st s K X o Q E l₁ R P HQ HE=>?_
  rcases vs with _|_
  ·
   rw[eval_Dict_empty]
   refine AD (Bz ?_)
   unfold newDict
   refine AD (wpAny_alloc (AJ ?_))
   refine AR (Dt.mp (Heap.DictOf.new (knd:=Dp c.prog c.w) s.heap)) fun ob g1 g2=>?_
   exact HQ _ (.obj st.heap.length) _ ⟨st.loc,st.heap++[O.dict []]⟩ _ s.toks (BI.app _) (L5 G R (kvs:=[]) (fun b o e=>BN _ e) rfl g1 fun hm=>⟨rfl,rfl,hm,[],g2,rfl⟩) (R.newAt (s.heap.objs.size,0)) P
  ·cases hv
 generalize hks:k0::ks'=ks
 have hks0:ks≠[]:=by rw[←hks];exact fun h=>nomatch h
 rw[show(dictM ks vs:M V)=(B2 (Fk ks vs)).bind fun l=>chk (Rf l&&D4 l.length 33) (GK (.sdict (HG l))) by rw[←hks];rfl]
 refine .look fun l e=>.chk fun hchk=>fun k₁ st s K X o Q E l₁ R P HQ HE=>?_
 have hchk:=AP.mp hchk
 have hnd:(l.map (·.1)).Nodup:=of_decide_eq_true hchk.1
 have hlen:l.length≤33:=Bg hchk.2
 have h:=IB e
 have hl0:(HG l).isEmpty=false:=by
  rcases l with _|_
  ·exact(hks0 (By.mp h.2.2.symm)).elim
  ·rfl
 have big:1000≤CM:=by rw[sizeLine_eq];lia
 have fin:∀h' tk kvs,(∀b o,s.heap.get? b=some o→h'.get? b=some o)→h'.DictOf (Db c.prog c.w) s.heap.objs.size kvs→Kv V.str c.tp k₁ (HG l) kvs→Q (.ref s.heap.objs.size) {s with heap:=h',toks:=tk}:=fun h' tk kvs hk hd hkv=>
  AR (Dt.mp hd) fun ob g1 g2=>HQ _ (.obj st.heap.length) _ ⟨st.loc,st.heap++[O.sdict (HG l)]⟩ h' tk (BI.app _) (L5 G R (kvs:=kvs) hk rfl g1 fun hm=>⟨rfl,rfl,⟨hm,hl0⟩,kvs,g2,hkv⟩) (R.newAt (s.heap.objs.size,0)) P
 have old:∀{h':Heap},Bd s.heap.objs.size (s.heap.push {cls:=.type "dict",data:=.dict #[]}) h'→∀b o,s.heap.get? b=some o→h'.get? b=some o:=fun hs b o e=>
  (hs.2 b (As (B4 e))).trans (BN _ e)
 have hp:=pairTrees_length ks vs c.env pos h.1 h.2.1
 rw[arm_eval_Dict,zip_pairTrees ks vs c.env pos h.1 h.2.1]
 refine AD (Bz ?_)
 by_cases h17:ks.length<17
 ·rw[dictDisplay_pairs _ (fun z=>by rw[z] at hp;exact hks0 (By.mp hp.symm)) (by lia)]
  refine AD (KR c.tp e (by lia) fun h' kvs tk hkv hd hs=>?_)
  rw[merged_nil_of_nodup kvs (by rw[Kl (hkv c.tp k)];exact hnd)] at hd
  exact AJ (fin h' tk kvs (old hs) hd (hkv _ _))
 ·rw[show ks=ks.take 17++ks.drop 17 from(DF 17 ks).symm] at e ⊢
  have c17:(ks.take 17).length=17:=by rw[List.length_take];lia
  have cm:(ks.drop 17).length≤16:=by rw[Ci,←h.2.2];lia
  generalize ks.take 17=k1 at e c17 ⊢
  generalize ks.drop 17=k2 at e cm ⊢
  refine AA (Ov e) fun v1 z=>Em z fun v2 l1 l2 z1 z2 e1 e2=>?_
  subst z1 z2
  have H1:=IB e1
  have H2:=IB e2
  have p1:=pairTrees_length k1 v1 c.env pos H1.1 H1.2.1
  have p2:=pairTrees_length k2 v2 c.env pos H2.1 H2.2.1
  rw[NE H1.1 H1.2.1,MP _ _ (by lia) (by lia)]
  refine AD (KR c.tp e1 (by lia) fun h' kvs tk hkv hd hs=>?_)
  have k1d:=Kl (hkv c.tp k)
  have nd1:(kvs.map (·.1)).Nodup:=by rw[k1d];exact(CC.mp (Aa▸hnd:(l1.map (·.1)++l2.map (·.1)).Nodup)).1
  rw[merged_nil_of_nodup kvs nd1] at hd
  by_cases hm0:E7 k2 v2 c.env pos=[]
  ·rw[if_pos hm0]
   rw[hm0] at p2
   have l20:l2=[]:=By.mp (by rw[H2.2.2,←p2];rfl)
   subst l20
   exact AJ (fin h' tk kvs (old hs) hd (by rw[AK];exact hkv _ _))
  ·rw[if_neg hm0]
   refine AD (BA (KR c.tp e2 (by lia) fun h2 kvs2 tk2 hkv2 hd2 hs2=>?_))
   have k2d:=Kl (hkv2 c.tp k)
   have nd2:((kvs++kvs2).map (·.1)).Nodup:=by rw[Aa,k1d,k2d,←Aa];exact hnd
   rw[merged_nil_of_nodup kvs2 (by rw[Aa] at nd2;exact(CC.mp nd2).2.1)] at hd2
   have lt:s.heap.objs.size<h'.objs.size:=AA hd fun o z=>Dm z fun zz zz z zz=>B4 z
   have J6:h2.DictOf (Db c.prog c.w) s.heap.objs.size kvs:=(hd.push _).sameBut hs2 (As lt)
   refine AD (wpAny_onRaise (BA (QH (As lt) ?_ ?_ J6 hd2 (fun h3 hd4 hs3=>AJ (fin h3 _ (kvs++kvs2) (fun b o e=>?_) ?_ (Xh (hkv _ _) (hkv2 _ _)))) ?_)))
   ·exact beq_eq_false_iff_ne.mpr fun z=>absurd (Am (modules_low G.nolim) R.F.above) (by rw[←z];exact Fs.mpr (AM (BU R.F.ns.lt) (BU lt)))
   ·exact fun z=>by rw[z] at k1d;rw[←H1.2.2] at c17;rw[←AH (f:=(·.1)),←k1d] at c17;cases c17
   ·exact(hs3.2 b (As (B4 e))).trans ((hs2.2 b (As (Fc (B4 e) lt))).trans (BN _ (old hs b o e)))
   ·rw[merged_append_of_fresh kvs kvs2 nd2] at hd4;exact hd4
   ·have a1:=(hkv c.tp k).length
    have a2:=(hkv2 c.tp k).length
    rw[show(HG l1).length=l1.length from AH _] at a1
    rw[show(HG l2).length=l2.length from AH _] at a2
    rw[AF] at hlen
    lia
end
theorem La {o:Expr}(h:QE o=true)(attr:Str)(env:Env)(whole:Sem Value):attributeBase o attr env whole=whole:=by
 rcases o with _|_|_|_|_|_|_|_|_|_|_|_|_|_|_|_|⟨f,as,ks,p⟩|_
 case Call=>
  rcases f with _|_|_|_|_|_|_|_|_|_|_|_|_|_|_|_|_|_|_|_|_|_|_|⟨x,q⟩|_
  case Name=>
   rcases as with _|_
   ·rcases ks with _|_
    ·exact(AS h).elim
    ·rfl
   ·rfl
  all_goals rfl
 all_goals rfl
section
variable {c:Cx}{k:Kn}
noncomputable abbrev CQ (c:Cx)(k:Kn)(q:Je)(p:Value×List Value):Prop:=Jc c k q p.1 p.2
theorem TM (G:Good c)(T:EV c.tp){a:V}{x:Value}{n:Str}{pl:Sem Bool}(ha:Ag c.tp k a x):AY c k (CQ c) (getMethod x n pl) (Ts c.S a n):=by
 unfold Ts
 rcases ea:D7 a with _|t
 ·
  refine .look fun i ei=>Fo ei fun q=>?_
  subst q
  refine fun k₁ st s K X o Q E l R P HQ HE=>Gc P fun ob e1 P1=>Bh P1 fun z e2 P2=>?_
  rcases ob with⟨j,fs⟩|⟨xs⟩|_
  case inst=>
   rcases ca:Ez c.S j n with _|q
   ·rw[show QF c.S n i (.inst j fs)=QG n fs i (Ez c.S j n) from rfl,ca] at e2;exact AU e2
   ·
    rw[show QF c.S n i (.inst j fs)=QG n fs i (Ez c.S j n) from rfl,ca] at e2
    rcases q with _|_|_|_|_|_|_|_|_|⟨f⟩|_
    case fn=>exact IJ e2 fun h1 h2=>E1 h2 fun h2=>Q0 G T.cls R (ha.mono l) e1 ca (Option.isNone_iff_eq_none.mp h1) (HQ.now (b:=(_,[x])) s.toks R (h2▸⟨rfl,x,[],ha.mono l,rfl,rfl⟩) P2)
    all_goals exact AU e2
  case list=>exact AR (Ar.mp e2) fun bid h1 h2=>Ri R (ha.mono l) e1 h1 (HQ.now (b:=(_,[x])) s.toks R (h2▸⟨rfl,x,[],ha.mono l,rfl,rfl⟩) P2)
  all_goals exact AU e2
 ·
  refine F3 ea fun q=>.gp fun h=>?_
  subst q h
  exact AA (show ∃u,x= .str t u from ha) fun u q=>by rw[q];exact .still fun zz s zz zz zz h=>PySem.GM.join (h s.toks (.builtin "str.join",[.str t u]) ⟨rfl,_,[],⟨_,rfl⟩,rfl,rfl⟩)
theorem Sg (T:EV c.tp){q:Je}{f:Value}{ws:List Value}(hq:Jc c k q f ws):∀h,c.K.In h→∃q,(q=Keeper.frame∨q=Keeper.machine∨q=G5)∧Looks c.M h (keeperOf f) q:=by
 have hm:∀{n:String} (h:Heap),∃q,(q=Keeper.frame∨q=Keeper.machine∨q=G5)∧Looks c.M h (keeperOf (.builtin n)) q:=fun h=>⟨.machine,.inr (.inl rfl),Looks.of_pure rfl⟩
 rcases q with _|_|_|_|_|_|_|_|_|⟨f⟩|_
 case fn=>exact fun h X=>hq.1▸keeps_K (T.keep _) h X
 case cls=>exact fun h X=>hq.1▸keeps_K (T.keepc _) h X
 case ty=>exact fun h X=>hq.1▸⟨.machine,.inr (.inl rfl),Looks.of_pure rfl⟩
 all_goals exact fun h X=>hq.1▸hm h
theorem W6 {a:V}{x:Value}(ha:Ag c.tp k a x):AY c k (fun k q (p:Value)=>Jc c k q p []) (Bn x) (Ya a):=by
 rcases a with _|_|_|_|_|_|_|_|_|⟨f⟩|⟨f⟩|_|_|⟨f⟩|⟨f⟩|_
 case fn=>exact .pure fun zz zz=>⟨ha,rfl⟩
 case cls=>exact .pure fun zz zz=>⟨ha,rfl⟩
 case bi=>exact .pure fun zz zz=>⟨ha,rfl⟩
 case ty=>exact .pure fun zz zz=>⟨ha,rfl⟩
 all_goals exact .stuck
theorem KJ {xs:List V}{vs:List Value}(hs:Ap c.tp k xs vs)(hl:xs.length≤lim):AY c k (CV c) (newList vs) (GK (.list xs)):=
 fun k₁ st s K X o Q E l R P HQ HE=>newList_K R.F R.N (fun a h' F' N' hlt=>HQ _ (.obj st.heap.length) _ ⟨st.loc,st.heap++[O.list xs]⟩ h' s.toks (BI.app _) (R.pushList (hs.mono l) F' N' hlt) (R.newAt _) P) (by rw[←hs.length];exact AM hl Cv)
theorem Nx {xs:List V}{vs:List Value}(hs:Ap c.tp k xs vs)(hl:xs.length≤lim):AY c k (CV c) (newTuple vs) (.pure (.tup xs)):=
 fun k₁ st s K X o Q E l R P HQ HE=>newTuple_N R.F R.N (fun h' F' N'=>HQ _ (.tup xs) _ st h' s.toks (BI.more [(s.heap.objs.size,HK vs 0)]) (R.pushI F' N' (FC ..) fun q hq p hp=>by
  rw[Ac.mp hq]
  exact As (B4 (R.N p hp).1)) ⟨_,0,vs,.head _,(hs.mono l).mono (BI.more _),rfl⟩ P) (by rw[←hs.length];exact AM hl Cv)
section
variable {r:GT}{d:Nat}(G:BS c d)(T:EV c.tp)(ev:∀k e,AY c k (CV c) (eval e c.env) (r.ev d e))(tr:∀k e,AY c k CB (isTrue e c.env (eval e c.env)) (r.tr d e))
 (ca:∀c' d',c'.tp=c.tp→c'.lv=c.lv→EI c' d'→Jb c' d')
include G T ev ca
theorem RK {f:Expr}{as:List Expr}{ks:List Keyword}{pos:Pos}:AY c k (CV c) (eval (.Call f as ks pos) c.env) (VW c.S r d f as ks pos):=by
 refine .chk fun h=>?_
 have h:=AP.mp h
 have fin:∀{k:Kn} {q:Je} {f:Value} {ws:List Value},Jc c k q f ws→AY c k (CV c) (callWith pos f ws (backTo pos (DK as c.env)) (DM pos (CG ks c.env))) ((IV r d as).bind fun vs=>(Ir r d ks).bind fun kvs=>Lg c.S d q vs kvs):=fun hq=>
  Ny ev h.2 (Sg T hq) G.1 fun k' xs vs kx kv l hv hk=>RM T G ca (hq.mono l) hv hk
 rcases f with _|_|_|_|_|_|_|_|_|_|_|_|_|_|_|_|_|_|_|_|⟨o,n,ap⟩|_|_|⟨x,xp⟩|_
 case Name=>
  show AY c k (CV c) (eval (.Name x xp) c.env >>= fun x=>callWith pos x [] (backTo pos (DK as c.env)) (DM pos (CG ks c.env))) _
  refine .bind (ev k _) fun k' a x l hx=>?_
  show AY c k' (CV c) ((Bn x:Sem Value) >>= fun x=>callWith pos x [] (backTo pos (DK as c.env)) (DM pos (CG ks c.env))) _
  exact .bind (W6 hx) fun k'' q y l' hq=>fin hq
 case Attribute=>
  refine .chk fun h'=>?_
  have h':=AP.mp h'
  rw[arm_eval_Call,La h'.2]
  refine .bind (ev k o) fun k' a x l hx=>.stand ?_
  have hp:=AP.mp h.2
  have h1:methodCallForm (as.length+ks.length) (backTo pos (DK as c.env)) (DM pos (CG ks c.env))=true:=by
   unfold methodCallForm
   have a3:(backTo pos (DK as c.env)).all (!·.1)=true:=by
    have a1:=List.any_eq_false.mp (Mf (pos:=pos) (env:=c.env) as hp.1)
    exact B1.mpr fun y hy=>by rw[Ee];exact Bool.eq_false_iff.mpr (a1 y hy)
   have hl:=of_decide_eq_true h.1
   rw[a3,(Mr (pos:=pos) (env:=c.env) ks hp.2).1,Bool.true_and,Bool.true_and,decide_eq_true_eq]
   split<;>lia
  have h2:methodCallPos true o c.env ap pos=Bn pos:=by unfold methodCallPos;simp[of_decide_eq_true h'.1]
  unfold methodCall
  rw[h1,h2]
  exact .bind (.hold (TM G.1 T hx)) fun k'' q p l' hq=>.via pos (fun Q E s h=>AJ h) (fin hq)
 all_goals exact .stuck
theorem TL {v i:Expr}{pos:Pos}:AY c k (CV c) (eval (.Subscript v i pos) c.env) (TA c.S r d v i):=by
 have e:eval (.Subscript v i pos) c.env=(eval v c.env >>= fun o=>Bx [o] (eval i c.env) >>= fun j=>D3 pos >>= fun zz=>DU v i o j):=by rw[arm_eval_Subscript];rfl
 have part:∀(x:Option Expr) {k:Kn},AY c k (CV c) (evalPart x c.env) (VR r d x):=fun x {k}=>by
  rcases x with _|e
  ·exact .pure fun zz zz=>rfl
  ·exact ev k e
 rw[e]
 unfold TA
 rcases hs:RA i with _|q
 ·exact .bind (ev k v) fun k' a x l hx=>.bind (.hold (ev k' i)) fun k'' b y l' hy=>.stand (Vy G.1 T.sta (hx.mono l') hy)
 ·
  refine .bind (ev k v) fun k' a x l hx=>fun k₁ st s K X o Q E l₁ R P HQ HE=>?_
  rcases i with _|_|_|_|_|_|_|_|_|_|_|_|_|_|_|_|_|_|_|_|_|_|_|_|_|_|⟨lo,hi,stp,p⟩
  case Slice=>
   rcases stp with _|z
   ·
    have hs:=AG hs
    subst hs
    refine AD (BA (wpAny_Slice ?_))
    exact part lo k₁ st s _ X o _ _ (.refl _) R P (fun k1 la lv st1 h1 t1 l2 R1 hl P1=>part hi k1 st1 _ _ X o _ _ (.refl _) R1 P1 (fun k2 ua uv st2 h2 t2 l3 R2 hu P2=>
     Dh (a:=.none) rfl (AD (Bz (RC (s:={s with heap:=h2,toks:=t2}) G.1 T.sta (hx.mono (l₁.trans (l2.trans l3))) (hl.mono l3) hu R2 P2 (HQ.ext (l2.trans l3)))))) (HE.ext l2)) HE
   ·exact AU hs
  all_goals exact AU hs
include tr in
theorem W5 (cm:∀k elt t iter ifs sc pos,AY c k (CV c) (eval (.ListComp elt [⟨t,iter,ifs,0⟩] sc pos) c.env) (NW c.S r d elt t iter ifs sc))(e:Expr):AY c k (CV c) (eval e c.env) (aR c.S r d e):=by
 cases e with
 |Constant q n p=>exact .const
 |Name x p=>exact .name G.1
 |BoolOp op vs p=>exact TV G T ev _
 |BinOp a op b p=>
  rw[arm_eval_BinOp]
  show AY c k (CV c) _ ((r.ev d a).bind fun x=>(r.ev d b).bind fun y=>Uf op x y)
  exact .bind (ev k _) fun k' a x l hx=>.bind (.hold (ev k' _)) fun k'' b y l' hy=>.stand (.operating (W7 (hx.mono l') hy))
 |UnaryOp op a p=>
  rw[arm_eval_UnaryOp]
  show AY c k (CV c) _ ((r.ev d a).bind fun a=>Wu c.S op a)
  exact .bind (ev k _) fun k' a x l hx=>.stand (.hold (XA G.1 T.sta hx))
 |IfExp t a b p=>
  rw[arm_eval_IfExp]
  show AY c k (CV c) _ ((r.tr d t).bind fun q=>Ej q (r.ev d a) (r.ev d b))
  refine .bind (tr k _) fun k' t t' l ht=>?_
  cases (show t=t' from ht)
  exact .ite (fun h=>by subst h;exact ev k' _) fun h=>by subst h;exact ev k' _
 |Dict ks vs p=>exact TR G.1
 |List es p=>
  rw[arm_eval_List]
  show AY c k (CV c) _ ((IV r d es).bind fun vs=>chk (BF vs.length) (GK (.list vs)))
  exact .stand (.bind (M5 ev _) fun k' xs vs l hs=>.sizeS fun hl=>KJ hs hl)
 |Tuple es p=>
  rw[arm_eval_Tuple]
  show AY c k (CV c) _ ((IV r d es).bind fun vs=>chk (BF vs.length) (.pure (.tup vs)))
  exact .stand (.bind (M5 ev _) fun k' xs vs l hs=>.sizeS fun hl=>Nx hs hl)
 |Compare a ops es p=>
  rw[arm_eval_Compare]
  show AY c k (CV c) _ ((r.ev d a).bind fun a=>(Gb c.S r d a ops es).bind fun b=>.pure (.bool b))
  exact .bind (ev k _) fun k' a x l hx=>fun k₁ st s K X o Q E l₁ R P HQ HE=>RI G T ev _ _ hx k₁ st s _ X o _ E l₁ R P (fun k'' t q st' h' tk l' R' hq P'=>HQ k'' (.bool t) q st' h' tk l' R' hq P') HE
 |Call f as ks p=>exact RK G T ev ca
 |Attribute o n p=>
  refine .chk (m:=(r.ev d o).bind fun ov=>KA c.S ov n) fun hs=>?_
  rw[arm_eval_Attribute,La hs]
  exact .bind (ev k o) fun k' a x l hx=>.stand (.bind (m:=KA c.S a n) (g:=.pure) (.hold (Nz G.1 T.cls hx)) fun k'' b y l' hy=>.letgo (.pure fun k3 l3=>hy.mono l3))
 |Subscript v i p=>exact TL G T ev ca
 |ListComp elt gs sc p=>
  refine .look fun g hg=>?_
  rcases gs with _|⟨g1,gs⟩
  ·exact AU hg
  ·
   rcases g1 with⟨t,iter,ifs,n⟩
   ·
    rcases gs with _|_
    ·
     refine IJ hg fun h0 hg'=>E1 hg' fun hg'=>?_
     subst h0 hg'
     exact cm k elt t iter ifs sc p
    ·exact AU hg
 |_=>exact .stuck
end
end
theorem Qr {prog:C0}{w:World}{A:Around}{test:Expr}{body orelse:List Stmt}{env:Env}{R:Result→Shared→Prop}{s:Shared}
  {E:Value→Shared→Prop}(hE:E=notedBy (model prog w) A env fun e s'=>R (.error e) s')(h:wpAny (model prog w) A (isTrue test env (eval test env)) (fun b s₂=>
    if b then wpAny (model prog w) A (execs body env) (fun f s₃=>match f with
      | .next| .cont=>Bl (model prog w) A (.whileLoop test body orelse env) R s₃
      | .brk=>R (.ok .next) s₃
      | .ret v=>R (.ok (.ret v)) s₃) E s₂
    else wpAny (model prog w) A (execs orelse env) (fun f s₃=>R (.ok f) s₃) E s₂) E s):Bl (model prog w) A (.whileLoop test body orelse env) R s:=by
 subst hE
 refine codeAny_of_tree ?_
 show wpAny _ A ((whileTurn test body orelse env).onRaise (fun x=>do noteFrame x env;theTreesLotGoes x)) _ _ s
 refine wpAny_noted ?_
 simp only[whileTurn]
 refine AD (Br h (fun b s₂ h₂=>?_) fun zz zz h'=>h')
 rcases b with _|_
 ·
  simp only[Cm,if_false] at h₂ ⊢
  exact AD (Br h₂ (fun f s₃ h₃=>AJ h₃) fun zz zz h'=>h')
 ·
  simp only[if_true] at h₂ ⊢
  refine AD (Br h₂ (fun f s₃ h₃=>?_) fun zz zz h'=>h')
  cases f with
  |next=>exact AJ ⟨rfl,h₃⟩
  |cont=>exact AJ ⟨rfl,h₃⟩
  |brk=>exact AJ h₃
  |ret v=>exact AJ h₃
theorem WX {prog:C0}{w:World}{A:Around}{target:Expr}{it:Value}{body orelse:List Stmt}{env:Env}{R:Result→Shared→Prop}{s:Shared}
  {E:Value→Shared→Prop}(hE:E=notedBy (model prog w) A env fun e s'=>R (.error e) s')(h:wpAny (model prog w) A (pyNext it) (fun r s₁=>match r with
   |none=>wpAny (model prog w) A (execs orelse env) (fun f s₃=>R (.ok f) s₃) (notedBy (model prog w) A env fun e s'=>R (.error e) s') s₁
   |some v=>wpAny (model prog w) A (letOwnedTupleGo target it v) (fun zz s₁'=>
     wpAny (model prog w) A (assign target env v) (fun zz s₂=>wpAny (model prog w) A (execs body env) (fun f s₃=>match f with
      | .next| .cont=>Bl (model prog w) A (.forLoop target it body orelse env) R s₃
      | .brk=>R (.ok .next) s₃
      | .ret v=>R (.ok (.ret v)) s₃) E s₂) E s₁') E s₁) E s):Bl (model prog w) A (.forLoop target it body orelse env) R s:=by
 subst hE
 refine codeAny_of_tree ?_
 show wpAny _ A ((forTurn target it body orelse env).onRaise (fun x=>do noteFrame x env;theTreesLotGoes x)) _ _ s
 refine wpAny_noted ?_
 simp only[forTurn]
 refine AD (Bz (AD (wpAny_onRaise (Br h (fun r s₁ h₁=>?_) fun zz zz h'=>Bz h'))))
 rcases r with _|v
 ·exact AJ ⟨rfl,codeAny_block h₁⟩
 ·
  refine AD (Br h₁ (fun zz s₁' h₁'=>?_) fun zz zz h'=>h')
  refine AD (Br h₁' (fun zz s₂ h₂=>AD (Br h₂ (fun f s₃ h₃=>?_) fun zz zz h'=>h')) fun zz zz h'=>h')
  cases f with
  |next=>exact AJ ⟨rfl,h₃⟩
  |cont=>exact AJ ⟨rfl,h₃⟩
  |brk=>exact AJ h₃
  |ret v=>exact AJ h₃
noncomputable def Lj (c:Cx)(k₀:Kn)(code:Code)(m:M Fl):Prop:=
 ∀k st s K X o R,BI k₀ k→Al c.fm k st s.heap→Y c.l o (m st K X)→FV c (CF c.tp) k s K o (fun f s'=>R (.ok f) s')→G6 c k s X o (fun e s'=>R (.error e) s')→Bl c.M c.A code R s
section
variable {c:Cx}{k:Kn}
theorem FK {r:GT}{d:Nat}(ex:∀k s,AY c k (CF c.tp) (exec s c.env) (r.ex d s))(ss:List Stmt):∀{k:Kn},AY c k (CF c.tp) (execs ss c.env) (Cy r d ss):=by
 induction ss with
 |nil=>exact .pure fun zz zz=>rfl
 |cons s ss ih=>
  intro k
  rw[execs_cons]
  refine .bind (ex k s) fun k' f fl l hf=>?_
  cases f with
  |next=>rw[show fl= .next from hf];exact ih
  |brk=>rw[show fl= .brk from hf];exact .pure fun zz zz=>rfl
  |cont=>rw[show fl= .cont from hf];exact .pure fun zz zz=>rfl
  |ret v=>exact AR hf fun w e hc=>by rw[e];exact .pure fun zz l'=>⟨w,rfl,hc.mono l'⟩
theorem Vo {m:M Fl}{fl:Fl}{flow:Flow}{st:St}{s:Shared}{K:Fl→St→Ay}{X:V→St→Ay}{o:Except V V×List O}{R:Result→Shared→Prop}{code:Code}(hf:CF c.tp k fl flow)(Rl:Al c.fm k st s.heap)(P:Y c.l o (GU m fl st K X))
  (HQ:FV c (CF c.tp) k s K o (fun f s'=>R (.ok f) s'))(HE:G6 c k s X o (fun e s'=>R (.error e) s'))(hm:Lj c k code m):match (generalizing:=false) flow with
   | .next| .cont=>Bl c.M c.A code R s
   | .brk=>R (.ok .next) s
   | .ret v=>R (.ok (.ret v)) s:=by
 cases fl with
 |next=>rw[show flow= .next from hf];exact hm k st s K X o R (.refl _) Rl P HQ HE
 |cont=>rw[show flow= .cont from hf];exact hm k st s K X o R (.refl _) Rl P HQ HE
 |brk=>rw[show flow= .brk from hf];exact HQ.now s.toks Rl (show CF c.tp k .next .next from rfl) P
 |ret v=>exact AR hf fun w e hc=>by rw[e];exact HQ.now s.toks Rl (show CF c.tp k (.ret v) (.ret w) from⟨w,rfl,hc⟩) P
theorem Vw (G:Good c)(ow:HJ c){r:GT}{d:Nat}(tr:∀k e,AY c k CB (isTrue e c.env (eval e c.env)) (r.tr d e))(ex:∀k s,AY c k (CF c.tp) (exec s c.env) (r.ex d s)){t:Expr}{b:List Stmt}
  (wl:∀k,Lj c k (.whileLoop t b [] c.env) (Go d t b)):Lj c k (.whileLoop t b [] c.env) (Su r d t b):=by
 intro k₁ st s K X o R l Rl P HQ HE
 have HN:=HE.noted G.frames ow
 refine Qr rfl (tr k₁ t k₁ st s _ X o _ _ (.refl _) Rl P (fun k1 q q' st1 h1 t1 l1 R1 hq P1=>?_) HN)
 cases (show q=q' from hq)
 rcases q with _|_
 ·exact wpAny_execs_nil (HQ k1 .next .next st1 h1 t1 l1 R1 rfl P1)
 ·exact FK ex b k1 st1 _ _ X o _ _ (.refl _) R1 P1 (fun k2 fl flow st2 h2 t2 l2 R2 hf P2=>Vo (s:={s with heap:=h2,toks:=t2}) hf R2 P2 (HQ.ext (l1.trans l2)) (HE.ext (l1.trans l2)) (wl k2)) (HN.ext l1)
theorem RD (G:Good c)(ts:List Expr):∀{xs:List V} {vs:List Value} {k:Kn},(ts.all fun t=>(LA t).isSome)=true→Ap c.tp k xs vs→AY c k CU (assignInOrder ((assignEach ts c.env).map (·.2)) vs) (H6 ts xs):=by
 induction ts with
 |nil=>
  intro xs vs k _ hs
  rcases xs with _|_
  ·rw[show vs=[] from hs];exact .pure fun zz zz=>trivial
  ·exact .stuck
 |cons t ts ih=>
  intro xs vs k h hs
  have h:=AP.mp (DW.symm.trans h)
  rcases xs with _|⟨a,xs⟩
  ·exact .stuck
  ·
   refine BJ hs fun v us h1 h2 e=>?_
   subst e
   cases t with
   |Name x p=>
    refine .look fun x' e=>E1 e fun e=>?_
    subst e
    show AY c k CU (Bx us (D3 p >>= fun zz=>bindName c.env x v) >>= fun zz=>assignInOrder ((assignEach ts c.env).map (·.2)) us) _
    exact .bind (.hold (.stand (.bindName G h1))) fun k' zz zz l zz=>ih h.2 (h2.mono l)
   |_=>exact(AS h.1).elim
theorem Py (G:Good c)(hh:c.A.handled=none){xs:List V}{v:Value}{n:Nat}(h:Ag c.tp k (.tup xs) v)(hn:n=xs.length):AY c k (fun k (a:Unit) (vs:List Value)=>Ap c.tp k xs vs) (unpackItems v n none) (.pure ()):=by
 refine fun k₁ st s K X o Q E l R P HQ HE=>HC (h.mono l) fun a m vs h1 h2 h3=>?_
 subst h3
 have ht:IsTup s.heap a vs.toArray:=⟨_,R.bears _ h1,rfl,_,rfl⟩
 exact unpackItemsN_ R.F R.N ht hh (by rw[Au,←h2.length];exact hn) fun h' F' N'=>HQ k₁ () _ st h' s.toks (.refl _) (R.same F' N') (by simpa using h2) P
theorem Px (ts:List Expr)(env:Env):(ts.all fun t=>(LA t).isSome)=true→(assignEach ts env).findIdx? (·.1)=none∧(assignEach ts env).length=ts.length:=by
 induction ts with
 |nil=>exact fun zz=>⟨rfl,rfl⟩
 |cons t ts ih=>
  intro h
  have h:=AP.mp (DW.symm.trans h)
  cases t with
  |Name x p=>
   show((false,assign (.Name x p) env)::assignEach ts env).findIdx? (·.1)=none∧_
   rw[List.findIdx?_cons,(ih h.2).1]
   exact⟨rfl,congrArg (·+1) (ih h.2).2⟩
  |_=>exact(AS h.1).elim
section
variable {r:GT}{d:Nat}(G:BS c d)(T:EV c.tp)(ev:∀k e,AY c k (CV c) (eval e c.env) (r.ev d e))
include G T ev
theorem Ie (t:Expr){a:V}{v:Value}{k:Kn}(hv:Ag c.tp k a v):AY c k CU (assign t c.env v) (Hl c.S r d t a):=by
 rcases t with _|_|_|_|_|_|_|_|_|_|_|_|_|_|_|_|_|_|_|_|⟨o,n,p⟩|⟨o,i,p⟩|_|⟨x,p⟩|_|⟨ts,kk,p⟩|_
 case Name=>exact .stand (.bindName G.1 hv)
 case Attribute=>
  show AY c k CU (Bx [v] (eval o c.env) >>= fun ov=>D3 p.atName >>= fun zz=>Bx [v,ov] (setAttr ov n v) >>= fun zz=>release [v,ov] []) ((r.ev d o).bind fun ov=>Hn c.S ov n a)
  exact .bind (.hold (ev k o)) fun k' b x l hx=>.stand fun k₁ st s K X o Q E l₁ R P HQ HE=>AD (BA (KI G.1 T.cls hx (hv.mono l) k₁ st s K X o _ E l₁ R P (fun k2 zz zz st2 h2 t2 l2 R2 zz P2=>wpAny_release (HQ k2 () () st2 h2 t2 l2 R2 trivial P2)) HE))
 case Subscript=>
  show AY c k CU (Bx [v] (eval o c.env) >>= fun ov=>Bx [v,ov] (eval i c.env) >>= fun iv=>D3 p >>= fun zz=>Bx [v,ov,iv] (setItem ov iv v) >>= fun zz=>release (match i with| .Slice _ _ none _=>[iv,v,ov]|_=>[v,ov,iv]) []) ((r.ev d o).bind fun ov=>(r.ev d i).bind fun iv=>KV ov iv a)
  exact .bind (.hold (ev k o)) fun k' b x l hx=>.bind (.hold (ev k' i)) fun k'' e y l' hy=>.stand fun k₁ st s K X o Q E l₁ R P HQ HE=>AD (BA (Oo (hx.mono l') hy ((hv.mono l).mono l') k₁ st s K X o _ E l₁ R P (fun k2 zz zz st2 h2 t2 l2 R2 zz P2=>wpAny_release (HQ k2 () () st2 h2 t2 l2 R2 trivial P2)) HE))
 case Tuple=>
  refine .look fun xs ex=>KD ex fun q=>.chk fun h=>?_
  subst q
  have h:=AP.mp h
  have hz:=h.1
  have h:=AP.mp h.2
  have h2:=Px ts c.env h.2
  show AY c k CU (D3 p >>= fun zz=>unpack v (assignEach ts c.env)) _
  refine .stand ?_
  unfold unpack
  rw[h2.1,h2.2]
  exact .bind (m:=.pure ()) (g:=fun zz=>H6 ts xs) (.hold (Py G.1 (G.4 hz) hv (of_decide_eq_true h.1))) fun k' zz vs l hs=>RD G.1 ts h.2 hs
 all_goals exact .stuck
theorem ND {pos:Pos}(ops:List CmpOp):∀(es:List Expr) {a:V} {x:Value} {k:Kn},Ag c.tp k a x→AY c k CB (testChain pos x ops (markedEach ops es (evalEach es c.env))) (Gb c.S r d a ops es):=by
 induction ops with
 |nil=>exact fun zz {zz zz zz} zz=>.stuck
 |cons op ops ih=>
  intro es a x k h
  rcases es with _|⟨e,es⟩
  ·exact .stuck
  ·
   rw[Pg]
   refine .chk fun hs=>?_
   rcases ops with _|⟨op2,ops⟩
   ·
    rcases es with _|_
    ·
     show AY c k CB (testChain pos x [op] [markedBehindIn op e (eval e c.env)]) _
     rw[KL (AP.mp hs).1]
     show AY c k CB (Bx [x] (eval e c.env) >>= fun rv=>D3 pos >>= fun zz=>operate [x,rv] (CJ op x rv) >>= fun q=>Bx [q] (truthy q)) ((r.ev d e).bind fun b=>(Kg c.S op a b).bind fun t=>.pure t)
     refine .bind (.hold (ev k e)) fun k' b y l hb=>.stand (.bind (.operating (Jl G.1 G.hu T.sta (h.mono l) hb)) fun k'' t q l' hq=>?_)
     rw[show q= .bool t from hq]
     exact .hold (.still fun zz s zz zz zz h=>G0 (h s.toks _ rfl))
    ·exact(AS ((Bool.and_false _).symm.trans hs)).elim
   ·
    show AY c k CB (Bx [x] (eval e c.env) >>= fun rv=>D3 pos >>= fun zz=>Bx [x,rv] (CJ op x rv) >>= fun q=>release [x,rv] [q] >>= fun zz=>Bx [q,rv] (truthy q) >>= fun t=>if t=true then testChain pos rv (op2::ops) (markedEach (op2::ops) es (evalEach es c.env)) else Bn false) ((r.ev d e).bind fun b=>(Kg c.S op a b).bind fun t=>Ej t (Gb c.S r d b (op2::ops) es) (.pure false))
    refine .bind (.hold (ev k e)) fun k' b y l hb=>.stand (.bind (.hold (Jl G.1 G.hu T.sta (h.mono l) hb)) fun k'' t q l' hq=>.release ?_)
    rw[show q= .bool t from hq]
    refine .via t (fun Q E s h=>BA (G0 h)) ?_
    cases t
    ·exact .pure fun zz zz=>rfl
    ·exact ih es (hb.mono l')
theorem Vx {k:Kn}(tr:∀k e,AY c k CB (isTrue e c.env (eval e c.env)) (r.tr d e))(e:Expr):AY c k CB (isTrue e c.env (eval e c.env)) (Zy c.S r d e):=by
 have plain:VI e=false→(isTrue e c.env (eval e c.env)=(eval e c.env >>= fun v=>D3 e.pos >>= fun zz=>Bx [v] (truthy v)))→AY c k CB (isTrue e c.env (eval e c.env)) ((r.ev d e).bind (IN c.S)):=fun zz h=>by
  rw[h]
  exact .bind (ev k e) fun k' a x l hx=>.stand (.hold (JG G.1 T.sta hx))
 rcases e with⟨op,vs,p⟩|_|_|⟨op,x,p⟩|_|⟨t,a,b,p⟩|_|_|_|_|_|_|_|_|_|⟨a,ops,es,p⟩|_
 case UnaryOp=>
  rcases op with _|_
  case Not=>
   show AY c k CB (isTrue x c.env (eval x c.env) >>= fun t=>Bn (!t)) ((r.tr d x).bind fun b=>.pure (!b))
   exact .bind (tr k x) fun k' t t' l ht=>.pure fun zz zz=>congrArg (!·) ht
  all_goals exact .stuck
 case BoolOp=>exact RN tr _
 case IfExp=>exact .stuck
 case Compare=>
  show AY c k CB (eval a c.env >>= fun x=>testChain p x ops (markedEach ops es (evalEach es c.env))) ((r.ev d a).bind fun a=>Gb c.S r d a ops es)
  exact .bind (ev k a) fun k' a x l hx=>ND G T ev ops es hx
 all_goals exact plain rfl rfl
end
end
theorem U0 {t:Expr}(h:OD t=true){G:Prop}(k:∀es n p,t= .Tuple es n p→G):G:=by
 rcases t with _|_<;>first|exact(AS h).elim|exact k _ _ _ rfl
noncomputable def Nj:List String:=["enumerate","zip","dict_itemiterator","dict_reverseitemiterator","odict_iterator","itertools.zip_longest","itertools.pairwise"]
theorem Ou {prog:C0}{w:World}{A:Around}{t:Expr}{a:Addr}{v:Value}{o:Obj}{n:String}{Q:Unit→Shared→Prop}{E:Value→Shared→Prop}{s:Shared}(ho:s.heap.get? a=some o)(hc:o.cls= .type n)(hn:Nj.contains n=false)(h:Q () s):
  wpAny (model prog w) A (letOwnedTupleGo t (.ref a) v) Q E s:=by
 have key:wpAny (model prog w) A (do
   let(.ref r,.ref a):=(Value.ref a,v)|return
   let o ←load r
   match o.cls,o.data with
   | .type n,.fields vs=>
    if["enumerate","zip","dict_itemiterator","dict_reverseitemiterator","odict_iterator","itertools.zip_longest","itertools.pairwise"].contains n&&vs[0]? ==some (rawInt a) then
     rule "for.unpacks-the-owned-tuple"
     updateField r 0 .none
   |_,_=>pure ()) Q E s:=by
  rcases v with _|_|_|_|_|_|_|_|_|_|⟨b⟩
  case ref=>
   refine AD (wpAny_load ho ?_)
   obtain⟨c,dd,dt,sl⟩:=o
   simp only at hc
   subst hc
   rcases dt with _|_<;>first
    |exact AJ h
    |(simp only
      rw[show(["enumerate","zip","dict_itemiterator","dict_reverseitemiterator","odict_iterator","itertools.zip_longest","itertools.pairwise"].contains n)=false from hn]
      exact AJ h)
  all_goals exact AJ h
 rcases t with _|_<;>first|exact key|exact AJ h
noncomputable abbrev wJ (c:Cx)(L:Ba):Cx:=⟨⟨c.tp,c.env,c.h₀,L++c.J⟩,c.A,c.outer,c.lv⟩
theorem Good.wJ {c:Cx}(G:Good c)(L:Ba):Good (wJ c L):=⟨G.top,G.kind,G.gl,G.bi,G.frames,G.stays,G.ff⟩
theorem BS.wJ {c:Cx}{d:Nat}(G:BS c d)(L:Ba):BS (wJ c L) d:=⟨G.1.wJ L,G.2,G.3,G.4,G.5⟩
noncomputable def Gj (c:Cx)(k:Kn):It→Nat→Addr→Obj→Prop
 | .list i _,j,_,o=>∃d:DE,k.D[i]? =some (some d)∧o.cls= .type "list_iterator"∧o.data= .fields #[.ref d.1,.int j 0]
 | .str s _,j,_,o=>∃n t,(n="str_ascii_iterator"∨n="str_iterator")∧o.cls= .type n∧o.data= .fields #[.str s t,.int j 0]∧j≤s.cps.size
 | .rng x y,j,_,o=>o={cls:=.type "range_iterator",dict:=none,data:=.fields #[rawInt (x+j * 1),rawInt (((y - x).toNat:Int) - j),rawInt 1],slots:= #[]}∧j≤(y - x).toNat
 | .dict i,j,a,o=>∃(d:DE) (ob:Obj) (es:Array C8) (ep:Nat),k.D[i]? =some (some d)∧(d.1,ob)∈c.J∧ob.data= .dict es ep∧o.cls= .type "dict_keyiterator"∧o.data= .fields #[.ref d.1,.int j 0,.int es.size 0,.int ep 0]∧j≤es.size
noncomputable def Gy (a:Addr)(j:Nat)(old:Value):Obj:={cls:=.type "enumerate",dict:=none,data:=.fields #[.none,.bool false,.ref a,rawInt j,.none,old],slots:= #[]}
noncomputable def Fe (c:Cx)(k:Kn)(it:It)(j:Nat)(p:Addr)(L:Ba):Prop:=∃a o,Gj c k it j a o∧((Ei it=false∧p=a∧L=[(a,o)])∨(Ei it=true∧p≠a∧∃old,L=[(p,Gy a j old),(a,o)]))
section
variable {c:Cx}{k k':Kn}{it:It}{j:Nat}{p a:Addr}{o:Obj}{L:Ba}
theorem Gj.mono (e:BI k k')(h:Gj c k it j a o):Gj c k' it j a o:=by
 rcases it with⟨i,en⟩|_|_|⟨i⟩
 case list=>exact Ae (fun d h=>⟨e.1 _ _ h.1,h.2⟩) h
 case dict=>exact Ae (fun d=>Ae fun ob=>Ae fun es=>Ae fun ep h=>⟨e.1 _ _ h.1,h.2⟩) h
 all_goals exact h
theorem Fe.mono (e:BI k k')(h:Fe c k it j p L):Fe c k' it j p L:=Ae (fun a=>Ae fun o h=>⟨h.1.mono e,h.2⟩) h
theorem Gj.cls (h:Gj c k it j a o):∃n,o.cls= .type n∧n≠"dict"∧Nj.contains n=false:=by
 cases it with
 |list i en=>exact AA h fun d h=>⟨_,h.2.1,by decide,by decide⟩
 |str s en=>exact AA h fun n h=>AA h fun t h=>⟨n,h.2.1,h.1.elim (fun e=>e▸by decide) fun e=>e▸by decide,h.1.elim (fun e=>e▸by decide) fun e=>e▸by decide⟩
 |rng x y=>exact⟨"range_iterator",h.1▸rfl,by decide,by decide⟩
 |dict i=>exact AA h fun d h=>AA h fun ob h=>AA h fun es h=>AA h fun ep h=>⟨_,h.2.2.2.1,by decide,by decide⟩
noncomputable def Qm (c:Cx)(L:Ba):Prop:=∀p∈L,∀kvs,¬p.2.IsDictOf (Dp c.prog c.w) kvs
theorem Kk {n:String}(h:o.cls= .type n)(hn:n≠"dict"):∀kvs,¬o.IsDictOf (Dp c.prog c.w) kvs:=fun kvs z=>AA z fun es z=>AA z fun ep z=>hn (Value.type.inj (h.symm.trans z.1.1))
theorem Fe.bare (h:Fe c k it j p L):Qm c L:=by
 refine AA h fun a h=>AA h fun o h=>AA h.1.cls fun n hn=>h.2.elim (fun z=>?_) fun z=>z.2.2.elim fun old e=>?_
 ·rw[z.2.2]
  exact fun q hq=>by rw[Ac.mp hq];exact Kk hn.1 hn.2.1
 ·rw[e]
  exact fun q hq=>(AZ.mp hq).elim (fun e=>by rw[e];exact Kk (n:="enumerate") rfl (by decide)) fun hq=>by rw[Ac.mp hq];exact Kk hn.1 hn.2.1
end
structure J3 (c:Cx)(k:Kn)(s:Shared)(it:It)(j:Nat)(a:Addr)(q:Option V)(n:Nat)(P:Nat→Value→Prop)(St:Nat→Heap→Prop)(fp:List Addr):Prop where
 W:Ei it=false→Walks c.prog c.w c.A a fp [a] n P St
 D:Ei it=true→Draws c.prog c.w c.A.in1 a fp n P St
 fp:∀b∈fp,b=a∨∃o n,s.heap.get? b=some o∧o.cls= .type n∧n≠"enumerate"
 st:St j s.heap
 no:q=none→j=n
 yes:∀x,q=some x→j<n∧∀v,P j v→Ag c.tp k x v
 live:∀h',j<n→St (j+1) h'→∃o',h'.get? a=some o'∧Gj c k it (j+1) a o'
theorem MC (q:Option V)(j:Nat):q.map (Fw false j)=q:=by rcases q with _|_<;>rfl
section
variable {c:Cx}{k:Kn}{j:Nat}{a:Addr}{o:Obj}{s:Shared}
theorem Rv (hh:c.A.handled=none){x:Str}{en:Bool}(H:Gj c k (.str x en) j a o)(ho:s.heap.get? a=some o):∃n P St fp,J3 c k s (.str x en) j a (x.cps[j]?.map Ai) n P St fp:=by
 refine AA H fun n H=>AA H fun t H=>?_
 have key:∀ty,n=ty→Walks c.prog c.w c.A a [a] [a] x.cps.size (SignAt x) (fun i h=>h.IsStrIter a ty x t i)→Draws c.prog c.w c.A.in1 a [a] x.cps.size (fun i v=>∃q u,x.cps[i]? =some q∧v= .str ⟨#[q]⟩ u) (fun i h=>h.IsStrIter a ty x t i)→(ty="str_ascii_iterator"∨ty="str_iterator")→∃n P St fp,J3 c k s (.str x en) j a (x.cps[j]?.map Ai) n P St fp:=fun ty e W D hty=>by
  subst e
  refine⟨x.cps.size,SignAt x,fun i h=>h.IsStrIter a n x t i,[a],fun zz=>W,fun zz=>D,fun b hb=>.inl (Ac.mp hb),⟨o,ho,H.2.1,H.2.2.1⟩,fun e=>?_,fun z e=>?_,fun h' hl st=>E2 st fun o' h1 h2 h3=>⟨o',h1,n,t,hty,h2,h3,hl⟩⟩
  ·exact FT H.2.2.2 (Array.getElem?_eq_none_iff.mp (Option.map_eq_none_iff.mp e))
  ·exact AR (Ar.mp e) fun q e1 e2=>⟨(E0.mp e1).1,fun v hv=>AA hv fun q' hv=>AR hv fun u h1 h2=>by
    rw[h1] at e1
    rw[←e2,h2,AG e1]
    exact⟨u,rfl⟩⟩
 exact H.1.elim (fun e=>key _ e (Walks.strAscii hh a x t) (Draws.strAscii (A:=c.A.in1) hh a x t) (.inl rfl)) fun e=>key _ e (Walks.strWide hh a x t) (Draws.strWide (A:=c.A.in1) hh a x t) (.inr rfl)
theorem QN (hh:c.A.handled=none){L:Ba}{st:St}(R:Al (wJ c L).fm k st s.heap){i:Nat}{en:Bool}{ob:O}{xs:List V}(H:Gj c k (.list i en) j a o)(ho:s.heap.get? a=some o)(e:st.heap[i]? =some ob)(hp:oL ob=some xs)(hj:j≤xs.length):∃n P St fp,J3 c k s (.list i en) j a xs[j]? n P St fp:=by
 refine AA H fun d H=>R.list (c:=wJ c L) e hp (v:=.ref d.1) ⟨d,H.1,rfl⟩ fun l vs n hv zz hs hL=>?_
 rw[←GH hv] at hL
 have hne:d.1≠a:=fun z=>AR hL fun o' h1 h2=>by rw[z,ho] at h1;rw[←AG h1,H.2.1] at h2;exact absurd (Value.type.inj h2.1) (by decide)
 have hlen:=hs.length
 refine⟨vs.toArray.size,_,_,[a,d.1],fun zz=>Walks.list hh a d.1 hne vs.toArray,fun zz=>Draws.list (A:=c.A.in1) hh a d.1 hne vs.toArray,fun b hb=>(AZ.mp hb).imp id fun hb=>AR hL fun o' h1 h2=>⟨o',"list",by rw[Ac.mp hb];exact h1,h2.1,by decide⟩,⟨⟨o,ho,H.2.1,H.2.2⟩,hL⟩,fun e=>?_,fun z e=>?_,fun h' zz st=>E2 st.1 fun o' h1 h2 h3=>⟨o',h1,d,H.1,h2,h3⟩⟩
 ·rw[Au,←hlen]
  exact FT hj (List.getElem?_eq_none_iff.mp e)
 ·refine AR (hs.get e) fun v h1 h2=>⟨by rw[Au,←hlen];exact(AI.mp e).1,fun w hw=>?_⟩
  have hw:vs.toArray[j]? =some w:=hw
  rw[List.getElem?_toArray,h1] at hw
  exact AG hw▸h2
theorem Rw (hh:c.A.handled=none){x y:Int}(H:Gj c k (.rng x y) j a o)(ho:s.heap.get? a=some o):∃n P St fp,J3 c k s (.rng x y) j a (if x+j<y then some (.int (x+j)) else none) n P St fp:=by
 refine⟨(y - x).toNat,_,_,[a],fun zz=>Walks.range hh a x 1 _,fun e=>(AS e).elim,fun b hb=>.inl (Ac.mp hb),ho.trans (congrArg some H.1),fun e=>?_,fun z e=>IJ e fun h e=>⟨by lia,fun v hv=>AA hv fun t hv=>?_⟩,fun h' hl st=>⟨_,st,rfl,hl⟩⟩
 ·have hj:=H.2
  by_cases h:x+j<y
  ·rw[if_pos h] at e;cases e
  ·lia
 ·rw[←AG e,hv,Int.mul_one];exact⟨t,rfl⟩
theorem QO (hh:c.A.handled=none){L:Ba}{st:St}(R:Al (wJ c L).fm k st s.heap){i:Nat}{ob:O}{es:List (V×V)}(H:Gj c k (.dict i) j a o)(ho:s.heap.get? a=some o)(e:st.heap[i]? =some ob)(hp:oF ob=some es):∃n P St fp,J3 c k s (.dict i) j a (es[j]?.map (·.1)) n P St fp:=by
 refine XT hp fun q=>?_
 subst q
 refine AA H fun d H=>AA H fun obj H=>AA H fun ds H=>AA H fun ep H=>D6 (R.heap.split e) fun d' p1 L' p2 e1 zz e3 zz=>BJ e3.2 fun d₁ ob' e4 e5 e6=>?_
 cases AG ((AG (H.1.symm.trans e1)).trans e4)
 have get:∀{p},p∈(wJ c L).J→s.heap.get? p.1=some p.2:=fun hp=>(R.N _ (AX _ (B3 _ hp))).1
 have g1:=get (AX L H.2.1)
 have g2:=get e5
 cases AG (g1.symm.trans g2)
 refine AR e6.2.2.2 fun kvs h1 h2=>AA h1 fun ds' h1=>AA h1 fun ep' h1=>?_
 have z:=H.2.2.1.symm.trans h1.2.1
 injection z with z1 z2
 subst z1 z2
 have hne:d.1≠a:=fun z=>by rw[z,ho] at g1;rw[AG g1] at H;exact absurd (Value.type.inj (H.2.2.2.1.symm.trans h1.1.1)) (by decide)
 have hn:ds.size=kvs.length:=by rw[←Da];exact h1.2.2.2.1.length
 have hlen:=h2.length
 rw[hn] at H
 refine⟨kvs.length,_,_,[a,d.1],fun zz=>Walks.dictKeys (knd:=Dp c.prog c.w) hh a d.1 hne kvs ep,fun e=>(AS e).elim,fun b hb=>(AZ.mp hb).imp id fun hb=>⟨_,"dict",by rw[Ac.mp hb];exact g1,h1.1.1,by decide⟩,⟨⟨o,ho,H.2.2.2.1,H.2.2.2.2.1⟩,_,ds,g1,h1.1,h1.2.1,h1.2.2⟩,fun e=>?_,fun z e=>?_,fun h' hl st=>E2 st.1 fun o' g3 g4 g5=>⟨o',g3,d,_,ds,ep,H.1,H.2.1,h1.2.1,g4,by rw[g5,hn],by rw[hn];exact hl⟩⟩
 ·have:=List.getElem?_eq_none_iff.mp (Option.map_eq_none_iff.mp e)
  have:=H.2.2.2.2.2
  lia
 ·refine AR (Ar.mp e) fun p e1 e2=>⟨by rw[←hlen];exact(AI.mp e1).1,fun v hv=>AA hv fun q hv=>AR hv fun x h3 h4=>?_⟩
  subst e2
  exact AA (Value.isInt_shape h4) fun t ht=>by rw[Xf h2 e1 h3,ht];exact⟨t,rfl⟩
theorem U3 (hh:c.A.handled=none){L:Ba}{st:St}(R:Al (wJ c L).fm k st s.heap){it:It}(H:Gj c k it j a o)(ho:s.heap.get? a=some o){α:Type}{g:Option V→M α}{K:α→St→Ay}{X:V→St→Ay}{out:Except V V×List O}(P:Y c.l out (((L9 it j).bind g) st K X)){Gl:Prop}
  (fin:∀q n P St fp,Y c.l out (g (q.map (Fw (Ei it) j)) st K X)→J3 c k s it j a q n P St fp→Gl):Gl:=by
 have fin':∀q,Y c.l out (g (q.map (Fw (Ei it) j)) st K X)→(∃n P St fp,J3 c k s it j a q n P St fp)→Gl:=fun q P h=>AA h fun n h=>AA h fun Pr h=>AA h fun St h=>AA h fun fp h=>fin q n Pr St fp P h
 cases it with
 |list i en=>exact JH P fun ob xs e1 e2 P=>Jn P fun hj P=>fin' xs[j]? P (QN hh R H ho e1 e2 (Bg hj))
 |str x en=>exact fin' (x.cps[j]?.map Ai) P (Rv hh H ho)
 |rng x y=>exact fin' (if x+j<y then some (.int (x+j)) else none) (by rw[show Ei (.rng x y)=false from rfl,MC];exact P) (Rw hh H ho)
 |dict i=>exact JH P fun ob es e1 e2 P=>fin' (es[j]?.map (·.1)) (by rw[show Ei (.dict i)=false from rfl,MC];exact P) (QO hh R H ho e1 e2)
noncomputable def bZ (c:Cx)(s:Shared)(a:Addr)(L:Ba):Prop:=
 ∀Q E,(∀h' tk,(∀b o,b∉L.map (·.1)→s.heap.get? b=some o→h'.get? b=some o)→Q none {s with heap:=h',toks:=tk})→wpAny c.M c.A (pyNext (.ref a)) Q E s
noncomputable def Zw (c:Cx)(k:Kn)(s:Shared)(it:It)(j:Nat)(a:Addr)(L:Ba)(x:V):Prop:=
 ∀(t:Expr) (Q:Value→Shared→Prop) E,Fj it t=true→(∀h' tk v L' I',L'.map (·.1)=L.map (·.1)→Fe c k it (j+1) a L'→(∀p∈L',h'.get? p.1=some p.2)→(∀b o,b∉L.map (·.1)→s.heap.get? b=some o→h'.get? b=some o)→
   (I'=[]∨∃T ob,I'=[(T,ob)]∧s.heap.objs.size≤T∧h'.get? T=some ob)→Ag c.tp ⟨k.D,I'++k.I⟩ x v→Q v {s with heap:=h',toks:=tk})→
  wpAny c.M c.A (pyNext (.ref a)) (fun r s₁=>match r with|none=>False|some v=>wpAny c.M c.A (letOwnedTupleGo t (.ref a) v) (fun zz s₂=>Q v s₂) E s₁) E s
theorem PU (hh:c.A.handled=none){p:Addr}{L:Ba}{st:St}{it:It}(H:Fe c k it j p L)(R:Al (wJ c L).fm k st s.heap){α:Type}{g:Option V→M α}{K:α→St→Ay}{X:V→St→Ay}{out:Except V V×List O}(P:Y c.l out (((L9 it j).bind g) st K X)){Gl:Prop}
  (fin:∀q,Y c.l out (g q st K X)→(match (generalizing:=false) q with|none=>bZ c s p L|some v=>Zw c k s it j p L v)→Gl):Gl:=by
 refine AA H fun a H=>AA H fun o H=>?_
 have B:∀q∈L,s.heap.get? q.1=some q.2:=fun q hq=>(R.N q (AX _ (B3 _ (B3 _ hq)))).1
 have ho:s.heap.get? a=some o:=H.2.elim (fun z=>B (a,o) (by rw[z.2.2];exact .head _)) fun z=>z.2.2.elim fun old e=>B (a,o) (by rw[e];exact .tail _ (.head _))
 refine U3 (c:=c) hh R H.1 ho P fun q n Pr St fp P N=>fin _ P ?_
 refine H.2.elim (fun z=>?_) fun z=>z.2.2.elim fun old e=>?_
 ·have W:=N.W z.1
  rw[z.1,MC,z.2.1,z.2.2]
  have out:∀{h':Heap},(∀b o,b∉[a]→s.heap.get? b=some o→h'.get? b=some o)→∀b ob,b∉([(a,o)]:Ba).map (·.1)→s.heap.get? b=some ob→h'.get? b=some ob:=fun hk b ob hb eb=>hk b ob hb eb
  rcases q with _|x
  ·exact fun Q E h=>W.done s Q E (N.no rfl▸N.st) fun h' tk hk=>h h' tk (out hk)
  ·
   intro t Q E ht h
   refine W.item j s _ _ (N.yes x rfl).1 N.st fun v h' tk hP st' hk=>AR (N.live h' (N.yes x rfl).1 st') fun o' h1 h2=>AA h2.cls fun m hm=>Ou h1 hm.1 hm.2.2 ?_
   exact h h' tk v [(a,o')] [] rfl ⟨a,o',h2,.inl ⟨z.1,rfl,rfl⟩⟩ (fun p hp=>by rw[Ac.mp hp];exact h1) (out hk) (.inl rfl) ((N.yes x rfl).2 v hP)
 ·have D:=N.D z.1
  have hen:IsEnum s.heap p a j old:=B _ (by rw[e];exact .head _)
  have hfp:p∉fp:=fun hp=>(N.fp p hp).elim z.2.1 fun w=>AA w fun o w=>AA w fun n w=>w.2.2 (Value.type.inj (w.2.1.symm.trans (congrArg Obj.cls (AG (w.1.symm.trans hen)))))
  rw[z.1,e]
  have keep:∀{h':Heap},(∀b o,b≠p→b≠a→s.heap.get? b=some o→h'.get? b=some o)→∀b ob,b∉([(p,Gy a j old),(a,o)]:Ba).map (·.1)→s.heap.get? b=some ob→h'.get? b=some ob:=fun hk b ob hb eb=>hk b ob (fun z=>hb (z▸ .head _)) (fun z=>hb (z▸ .tail _ (.head _))) eb
  rcases q with _|x
  ·exact fun Q E h=>wpAny_pyNext_enum_endD D hen (N.no rfl▸N.st) fun h' hk=>h h' s.toks (keep fun b o h1 h2 h3=>hk b o h2 h3)
  ·
   intro t Q E ht h
   refine wpAny_pyNext_enum_itemD D hen N.st (N.yes x rfl).1 z.2.1 hfp fun v h' tk hP hout st' hT hsz hk=>?_
   have ht2:OD t=true:=by unfold Fj at ht;rw[z.1] at ht;exact ht
   refine U0 ht2 fun elts kk pos et=>?_
   subst et
   ·refine wpAny_letOwnedTupleGo_enum hout fun h2 hen2 hsb=>AR (N.live h' (N.yes x rfl).1 st') fun o' g1 g2=>?_
    have hp:=B4 hen
    refine h h2 _ (.ref s.heap.objs.size) [(p,Gy a (j+1) v),(a,o')] [(s.heap.objs.size,HK [.int j tk,v] 0)] rfl ⟨a,o',g2,.inr ⟨z.1,z.2.1,v,rfl⟩⟩ (fun q hq=>?_) (keep fun b ob h1 h2 h3=>(hsb.2 b h1).trans (hk b ob h1 h2 h3)) (.inr ⟨_,_,rfl,Ak _,(hsb.2 _ (CT hp)).trans hT⟩)
     ⟨s.heap.objs.size,0,[.int j tk,v],.head _,⟨_,_,⟨tk,rfl⟩,⟨v,[],((N.yes x rfl).2 v hP).mono (BI.more _),rfl,rfl⟩,rfl⟩,rfl⟩
    refine(AZ.mp hq).elim (fun e=>?_) fun hq=>?_
    ·rw[e,show Gy a (j+1) v={cls:=.type "enumerate",dict:=none,data:=.fields #[.none,.bool false,.ref a,rawInt ((j:Int)+1),.none,v],slots:= #[]} from by unfold Gy;push_cast;rfl];exact hen2
    ·rw[Ac.mp hq];exact(hsb.2 _ (DS z.2.1)).trans g1
end
theorem IG (M L J I:Ba):CK (M++((L++J)++I)) (L++(M++(J++I))):=by
 rw[AB];exact BE M L (J++I)
section
variable {c:Cx}{k:Kn}{st:St}{h h':Heap}{L:Ba}
noncomputable def Al.addJ (R:Al c.fm k st h)(F':Fr c.h₀ c.env.locals h' R.m)(N':News c.h₀ c.env.locals h' (L++(R.MO++(c.J++k.I))))(hn:(L.map (·.1)).Nodup)(hf:∀q∈L,∀p∈R.MO++(c.J++k.I),p.1≠q.1):Al (wJ c L).fm k st h':=
 ⟨R.m,R.MO,F',fun p hp=>N' p ((IG ..).mem_iff.mp hp),FR (IG ..) (Hp hn R.nd hf),R.loc,R.heap.imp (.refl _) fun p zz hp zz=>AX _ hp⟩
noncomputable def Al.addIt (R:Al c.fm k st h)(o:Obj)(hf:o.isFreed=false):Al (wJ c [(h.objs.size,o)]).fm k st (h.push o):=
 R.addJ (L:=[(h.objs.size,o)]) (R.F.push o) (News.push R.F R.N o hf) (FC ..) fun q hq p hp=>by
  rw[Ac.mp hq]
  exact As (B4 (R.N p hp).1)
theorem Al.ndJ (R:Al (wJ c L).fm k st h):((L++(R.MO++(c.J++k.I))).map (·.1)).Nodup:=FR (IG ..).symm R.nd
theorem Al.inJ (R:Al (wJ c L).fm k st h){p:Addr×Obj}(hp:p∈L):h.get? p.1=some p.2∧p.1≠c.env.locals∧c.h₀.get? p.1=none:=R.N p ((IG ..).mem_iff.mpr (B3 _ hp))
theorem Al.apart (R:Al (wJ c L).fm k st h){p:Addr×Obj}(hp:p∈R.MO++(c.J++k.I)):p.1∉L.map (·.1):=fun z=>by
 have nd:=R.ndJ
 rw[Aa,CC] at nd
 exact AR (Bq.mp z) fun q hq e=>nd.2.2 q.1 (BO hq) p.1 (BO hp) e
theorem Al.frJ (R:Al (wJ c L).fm k st h)(hk:∀b o,b∉L.map (·.1)→h.get? b=some o→h'.get? b=some o):Fr c.h₀ c.env.locals h' R.m:=by
 have nA:∀b∈L.map (·.1),b≠c.env.locals∧c.h₀.get? b=none:=fun b hb=>AR (Bq.mp hb) fun p hp e=>e▸(R.inJ hp).2
 refine⟨R.F.ns.at fun o e=>hk _ o (fun z=>(nA _ z).1 rfl) e,fun b o e=>hk b o (fun z=>by rw[(nA _ z).2] at e;cases e) (R.F.keep b o e),R.F.above⟩
noncomputable def Al.extJ (R:Al (wJ c L).fm k st h){L' I':Ba}(hl:L'.map (·.1)=L.map (·.1))(hd:Qm c L)(hk:∀b o,b∉L.map (·.1)→h.get? b=some o→h'.get? b=some o)(hL:∀p∈L',h'.get? p.1=some p.2)
  (hI:I'=[]∨∃T ob,I'=[(T,ob)]∧h.objs.size≤T∧h'.get? T=some ob):Al (wJ c L').fm ⟨k.D,I'++k.I⟩ st h':=by
 have hN:News c.h₀ c.env.locals h' (L'++(R.MO++(c.J++k.I))):=fun p hp=>(BB.mp hp).elim (fun hp=>⟨hL p hp,AR (Bq.mp (hl▸BO hp:p.1∈L.map (·.1))) fun q hq e=>e▸(R.inJ hq).2⟩) fun hp=>
  have g:=R.N p ((IG ..).mem_iff.mpr (AX _ hp));⟨hk _ _ (R.apart hp) g.1,g.2⟩
 have nd:((L'++(R.MO++(c.J++k.I))).map (·.1)).Nodup:=by rw[Aa,hl,←Aa];exact R.ndJ
 have hlt:∀p∈L'++(R.MO++(c.J++k.I)),p.1<h.objs.size:=fun p hp=>(BB.mp hp).elim (fun hp=>AR (Bq.mp (hl▸BO hp:p.1∈L.map (·.1))) fun q hq e=>e▸B4 (R.inJ hq).1) fun hp=>B4 (R.N p ((IG ..).mem_iff.mpr (AX _ hp))).1
 let base:Al (wJ c L').fm k st h':=⟨R.m,R.MO,R.frJ hk,fun p hp=>hN p ((IG ..).mem_iff.mp hp),FR (IG ..) nd,R.loc,R.heap.imp (.refl _) fun p kvs hp z=>(BB.mp hp).elim (fun hp=>(hd p hp kvs z).elim) fun hp=>AX _ hp⟩
 have up:∀{T ob},h.objs.size≤T→h'.get? T=some ob→T≠c.env.locals∧c.h₀.get? T=none:=fun{T ob} hT zz=>by
  refine⟨fun z=>absurd (Am R.F.ns.lt hT) (by rw[z];exact CD _),?_⟩
  rcases e:c.h₀.get? T with _|o
  ·rfl
  ·exact absurd (Am (B4 (R.F.keep _ o e)) hT) (CD _)
 refine base.pushI (L:=I') base.F (fun p hp=>(BB.mp hp).elim (fun hp=>?_) fun hp=>base.N p hp) ?_ fun q hq p hp=>?_
 ·exact hI.elim (fun e=>by rw[e] at hp;cases hp) fun e=>BJ e fun T ob e hT ho=>by rw[e] at hp;rw[Ac.mp hp];exact⟨ho,up hT ho⟩
 ·exact hI.elim (fun e=>by rw[e];exact Er) fun e=>BJ e fun T ob e hT ho=>by rw[e];exact FC ..
 ·exact hI.elim (fun e=>by rw[e] at hq;cases hq) fun e=>BJ e fun T ob e hT ho=>by
   rw[e] at hq
   rw[Ac.mp hq]
   exact As (Am (hlt p ((IG ..).mem_iff.mp hp)) hT)
noncomputable def Al.endJ (R:Al (wJ c L).fm k st h)(hd:Qm c L)(hk:∀b o,b∉L.map (·.1)→h.get? b=some o→h'.get? b=some o):Al c.fm k st h':=
 ⟨R.m,R.MO,R.frJ hk,fun p hp=>have g:=R.N p ((IG ..).mem_iff.mpr (AX _ hp));⟨hk _ _ (R.apart hp) g.1,g.2⟩,(CC.mp (Aa▸R.ndJ:(L.map (·.1)++(R.MO++(c.J++k.I)).map (·.1)).Nodup)).2.1,R.loc,
  R.heap.imp (.refl _) fun p kvs hp z=>(BB.mp hp).elim (fun hp=>(hd p hp kvs z).elim) id⟩
end
noncomputable def Nd (c:Cx)(d:Nat):Prop:=
 nz d=true→∀t b it j p L k st s K X o R,Fe c k it j p L→Fj it t=true→Al (wJ c L).fm k st s.heap→Y c.l o (MK d t it j b st K X)→FV c (CF c.tp) k s K o (fun f s'=>R (.ok f) s')→G6 c k s X o (fun e s'=>R (.error e) s')→Bl c.M c.A (.forLoop t (.ref p) b [] c.env) R s
section
variable {c:Cx}{k:Kn}
theorem Fy.dropJ {L:Ba}{s:Shared}{X:V→St→Ay}{o:Except V V×List O}{E:Value→Shared→Prop}(hd:Qm c L)(H:Fy c k s X o E):Fy (wJ c L) k s X o E:=fun k' a st' e h' tk l R P=>H k' a st' e h' tk l (DC.dropJ hd R) P
theorem W3 {r:GT}{d:Nat}(G:BS c d)(ow:HJ c)(hz:nz d=true)(T:EV c.tp)(ev:∀c',c'.tp=c.tp→c'.lv=c.lv→BS c' d→∀k e,AY c' k (CV c') (eval e c'.env) (r.ev d e))(ex:∀c',c'.tp=c.tp→c'.lv=c.lv→BS c' d→HJ c'→∀k s,AY c' k (CF c'.tp) (exec s c'.env) (r.ex d s))
  (fr:Nd c d){t:Expr}{b:List Stmt}{it:It}{j:Nat}{p:Addr}{L:Ba}{st:St}{s:Shared}{K:Fl→St→Ay}{X:V→St→Ay}{o:Except V V×List O}{R:Result→Shared→Prop}(H:Fe c k it j p L)(hok:Fj it t=true)(Rl:Al (wJ c L).fm k st s.heap)
  (P:Y c.l o (UA c.S r d t it j b st K X))(HQ:FV c (CF c.tp) k s K o (fun f s'=>R (.ok f) s'))(HE:G6 c k s X o (fun e s'=>R (.error e) s')):Bl c.M c.A (.forLoop t (.ref p) b [] c.env) R s:=by
 have HN:=HE.noted G.1.frames ow
 refine WX rfl (PU (G.4 hz) H Rl P fun q P=>?_)
 rcases q with _|v
 ·exact fun ho=>ho _ _ fun h' tk hk=>wpAny_execs_nil (HQ k .next .next st h' tk (.refl _) (Rl.endJ H.bare hk) rfl P)
 ·
  refine fun ho=>Br (ho t (fun v s₂=>wpAny c.M c.A (assign t c.env v) (fun zz s₂=>wpAny c.M c.A (execs b c.env) (fun f s₃=>match f with
    | .next| .cont=>Bl c.M c.A (.forLoop t (.ref p) b [] c.env) R s₃
    | .brk=>R (.ok .next) s₃
    | .ret v=>R (.ok (.ret v)) s₃) (notedBy c.M c.A c.env fun e s'=>R (.error e) s') s₂) (notedBy c.M c.A c.env fun e s'=>R (.error e) s') s₂) _ hok fun h' tk u L' I' hl hat hg hk hI hc=>?_) (fun o s₁ h=>?_) fun zz zz h=>h
  ·have c1:=G.wJ L'
   have R2:=Rl.extJ hl H.bare hk hg hI
   refine Ie c1 T (ev (wJ c L') rfl rfl c1) t hc _ st _ _ X o _ _ (.refl _) R2 P (fun k2 zz zz st2 h2 t2 l2 R3 zz P2=>?_) ((HN.dropJ hat.bare).ext (BI.more I'))
   refine FK (ex (wJ c L') rfl rfl c1 ow) b k2 st2 _ _ X o _ _ (.refl _) R3 P2 (fun k3 fl flow st3 h3 t3 l3 R4 hf P3=>?_) ((HN.dropJ hat.bare).ext ((BI.more I').trans l2))
   have lk:BI k k3:=(BI.more I').trans (l2.trans l3)
   have hat3:=hat.mono lk
   have done:∀fl flow,CF c.tp k3 fl flow→Y c.l o (K fl st3)→R (.ok flow) {s with heap:=h3,toks:=t3}:=fun fl flow hf P=>HQ k3 fl flow st3 h3 t3 lk (R4.endJ hat3.bare fun zz zz zz e=>e) hf P
   cases fl with
   |next=>rw[show flow= .next from hf];exact fr hz t b it (j+1) p L' k3 st3 _ K X o R hat3 hok R4 P3 (HQ.ext lk) (HE.ext lk)
   |cont=>rw[show flow= .cont from hf];exact fr hz t b it (j+1) p L' k3 st3 _ K X o R hat3 hok R4 P3 (HQ.ext lk) (HE.ext lk)
   |brk=>rw[show flow= .brk from hf];exact done .next .next rfl P3
   |ret v=>exact AR hf fun w e hc=>by rw[e];exact done (.ret v) (.ret w) ⟨w,rfl,hc⟩ P3
  ·rcases o with _|v
   ·exact h.elim
   ·exact Br h (fun zz zz h=>h) fun zz zz h=>h
end
theorem JP (s:Str):strIterType s="str_ascii_iterator"∨strIterType s="str_iterator":=by
 unfold strIterType
 split<;>simp
noncomputable def KH (c:Cx)(k:Kn)(it:It)(st:St)(h:Heap)(v:Value):Prop:=
 ∃Jd p L,v= .ref p∧Fe (wJ c Jd) k it 0 p L∧Nonempty (Al (wJ (wJ c Jd) L).fm k st h)∧((Iu it= .pure ()∧Jd=[])∨∃(i:Nat) (d:DE) (ob:Obj),it= .dict i∧Jd=[(d.1,ob)]∧k.D[i]? =some (some d))
theorem Wl {e:Expr}{q:Expr×List Expr×Bool}(h:NY e=some q){G:Prop}(k:∀f as ks p,e= .Call f as ks p→q=(f,as,ks.isEmpty)→G):G:=Dm (Ph h) fun ks p e hk=>k q.1 q.2.1 ks p e (by rw[hk])
theorem Wf {iter x:Expr}(h:LO iter=some x){P:Expr→Prop}(H:∀np pos,P (.Call (.Name ("enumerate":Str) np) [x] [] pos)):P iter:=by
 refine AR (Af.mp h) fun q hq h=>Wl hq fun f as ks p e e2=>?_
 subst e e2
 refine AR (Af.mp h) fun n hn h=>IJ h fun hc h=>IJ h fun hl h'=>AR (Ar.mp hn) fun w hw e2=>?_
 rw[show f= .Name w.1 w.2 from MB hw,show ks=[] from CP.mp hc.2,show w.1=("enumerate":Str) from e2.trans hc.1]
 rcases as with _|⟨z,as⟩
 ·exact nomatch hl
 ·rcases as with _|_
  ·exact AG h'▸H _ _
  ·exact nomatch hl
theorem SE {iter:Expr}(h:Js iter=true)(env:Env)(x:Value):foldedSetIterable iter env x=Bn x:=by
 rcases iter with _|_<;>first|rfl|exact(AS h).elim
theorem Cs.noFro {θ:Tp}{J J':Ba}{k:Kn}{os:List O}:∀{D:List (Option DE)} {M:Ba},os.all Eg=true→Cs θ J k os D M→Cs θ J' k os D M:=by
 induction os with
 |nil=>exact fun zz h=>h
 |cons o os ih=>
  intro D M ha h
  have ha:=AP.mp (DW.symm.trans ha)
  refine D6 h fun d ds L M' h1 h2 h3 h4=>⟨d,ds,L,M',h1,h2,?_,ih ha.2 h4⟩
  rcases o with _|_
  case fro es=>exact(AS ha.1).elim
  all_goals exact h3
section
variable {c:Cx}{k:Kn}
theorem IK {it:It}{st:St}{h:Heap}{p:Addr}{o:Obj}(he:Iu it= .pure ())(hn:Ei it=false)(H:Gj c k it 0 p o)(R:Al (wJ c [(p,o)]).fm k st h):KH c k it st h (.ref p):=
 ⟨[],p,[(p,o)],rfl,⟨p,o,H,.inl ⟨hn,rfl,rfl⟩⟩,⟨R⟩,.inl ⟨he,rfl⟩⟩
theorem TP (G:Good c){st:St}{s:Shared}(R:Al c.fm k st s.heap){a:V}{x:Value}(ha:Ag c.tp k a x){α:Type}{g:It→M α}{K:α→St→Ay}{X:V→St→Ay}{o:Except V V×List O}(P:Y c.l o (((QM a).bind g) st K X)){Q:Value→Shared→Prop}{E:Value→Shared→Prop}
  (fin:∀it st' v h',Y c.l o (g it st' K X)→KH c k it st' h' v→Q v {s with heap:=h'}):wpAny c.M c.A (pyIter x) Q E s:=by
 rcases a with _|_|_|_|⟨t⟩|_|_|_|⟨i⟩|_|_|_|⟨y,z⟩|_
 case obj=>
  refine Gc P fun ob e1 P1=>Bh P1 fun ob' e2 P2=>?_
  cases AG e2
  rcases ob with _|⟨xs⟩|⟨es⟩|_
  case list=>
   exact R.list e1 rfl ha fun l vs n hv zz hs hL=>by
    subst hv
    exact AR ha fun d hd hv=>wpAny_pyIter_list hL (fin (.list i false) st _ _ P2 (IK rfl rfl ⟨d,hd,rfl,by rw[GH hv];rfl⟩ (R.addIt {cls:=.type "list_iterator",data:=.fields #[.ref l,.int 0 0]} rfl)))
  case dict=>
   refine Jn P2 fun zz P=>AR ha fun d hd hv=>?_
   subst hv
   refine D6 (R.heap.split e1) fun d' p1 L p2 g1 g2 g3 zz=>El g3 fun d₁ hh a ob g4 g5 g6=>?_
   cases AG ((AG (hd.symm.trans g1)).trans g4)
   have b1:=g6.1
   have b2:=g6.2.1
   subst b1 b2
   have g5:L=[(d.1,ob)]:=g5
   have hJ:∀p∈c.J,p∈[(d.1,ob)]++c.J:=fun p hp=>AX _ hp
   refine D6 ((R.heap.imp (J':=[(d.1,ob)]++c.J) (.refl _) fun p zz hp zz=>hJ p hp).split e1) fun d' p1 L' p2 k1 k2 k3 H=>El k3 fun d₁ hh' a' ob' k4 k5 k6=>?_
   cases AG ((AG (hd.symm.trans k1)).trans k4)
   have b1:=k6.1
   have b2:=k6.2.1
   subst b1 b2
   have row:=fun{ob} (hm:(d.1,ob)∈R.MO)=>(R.N (d.1,ob) (B3 _ hm)).1
   have hob:ob'=ob:=AG ((row (by rw[k2,k5];exact AX _ (.head _))).symm.trans (row (by rw[g2,g5];exact AX _ (.head _))))
   subst hob
   have pm:CK ((p1++([]++p2))++(([(d.1,ob')]++c.J)++k.I)) (R.MO++(c.J++k.I)):=by
    rw[k2,k5,AB [(d.1,ob')]]
    simp only[AB,Dr]
    exact DG p1 (BE p2 [(d.1,ob')] (c.J++k.I))
   have z:=H (.fro es) (some d) [] ⟨rfl,d,ob',rfl,B3 _ (.head _),k6⟩
   rw[Ln hd] at z
   refine AR k6.2.2.2 fun kvs h1 h2=>AA h1 fun ds h1=>AA h1 fun ep h1=>?_
   have hat:s.heap.DictAt (Dp c.prog c.w) d.1 kvs ep:=⟨ob',ds,row (by rw[k2,k5];exact AX _ (.head _)),h1.1,h1.2.1,h1.2.2⟩
   refine wpAny_pyIter_dict k6.2.2.1 hat (fin (.dict i) ⟨st.loc,st.heap.set i (.fro es)⟩ _ _ P ?_)
   have hn:ds.size=kvs.length:=by rw[←Da];exact h1.2.2.2.1.length
   have R1:Al (wJ c [(d.1,ob')]).fm k ⟨st.loc,st.heap.set i (.fro es)⟩ s.heap:=⟨R.m,_,R.F,fun p hp=>R.N p (pm.mem_iff.mp hp),FR pm R.nd,R.loc,z⟩
   exact⟨[(d.1,ob')],s.heap.objs.size,_,rfl,⟨_,_,⟨d,ob',ds,ep,hd,B3 _ (.head _),h1.2.1,rfl,by rw[hn];rfl,BX _⟩,.inl ⟨rfl,rfl,rfl⟩⟩,⟨R1.addIt {cls:=.type "dict_keyiterator",data:=.fields #[.ref d.1,.int 0 0,.int kvs.length 0,.int ep 0]} rfl⟩,.inr ⟨i,d,ob',rfl,rfl,hd⟩⟩
  all_goals exact P2.elim
 case str=>
  exact AA (show ∃u,x= .str t u from ha) fun u e=>by
   rw[e]
   exact wpAny_pyIter_strU (fin (.str t false) st _ _ P (IK rfl rfl ⟨_,u,JP t,rfl,rfl,BX _⟩ (R.addIt {cls:=.type (strIterType t),data:=.fields #[.str t u,.int 0 0]} rfl)))
 case rng=>
  refine Jn P fun h P=>HB ha fun l t u w hI e=>?_
  subst e
  have h:=AP.mp h
  have ha:y.natAbs≤1000000:=Bg h.1
  have hb:z.natAbs≤1000000:=Bg h.2
  refine wpAny_pyIter_range (R.bears _ hI:IsRange s.heap l y z 1 t u w) (small_one (by lia) (by lia) (by lia) (by lia)) (fin (.rng y z) st _ _ P (IK rfl rfl ⟨?_,BX _⟩ (R.addIt {cls:=.type "range_iterator",data:=.fields #[rawInt y,rawInt (DI.Range.rangeSize y z 1),rawInt 1]} rfl)))
  have e1:y+((0:Nat):Int) * 1=y:=by lia
  have e2:DI.Range.rangeSize y z 1=((z - y).toNat:Int) - ((0:Nat):Int):=by
   rw[rangeSize_one]
   by_cases q:y<z
   ·rw[if_pos q,FQ (Int.sub_nonneg.mpr (Int.le_of_lt q))];exact(Int.sub_zero _).symm
   ·rw[if_neg q,Int.toNat_of_nonpos (Int.sub_nonpos_of_le (Fv.mp q))];rfl
  rw[e1,e2]
 all_goals exact P.elim
theorem Q1 (G:Good c){st:St}{s:Shared}(R:Al c.fm k st s.heap){a:V}{x:Value}(ha:Ag c.tp k a x){α:Type}{g:It→M α}{K:α→St→Ay}{X:V→St→Ay}{o:Except V V×List O}(P:Y c.l o (((IW a).bind g) st K X)){Q:Value→Shared→Prop}{E:Value→Shared→Prop}
  (fin:∀it v h',Y c.l o (g it st K X)→KH c k it st h' v→(∀(A:Around) (K:Value→Shared→Prop) E',K v {s with heap:=h'}→wpAny c.M A (pyIter v) K E' {s with heap:=h'})→Q v {s with heap:=h'}):wpAny c.M c.A (call (.type "enumerate") [x]) Q E s:=by
 have add:∀{it:It} {o1 o2:Obj} {h':Heap},Ei it=true→Iu it= .pure ()→Gj c k it 0 s.heap.objs.size o2→h'.get? (s.heap.objs.size+1)=some o1→o1=Gy s.heap.objs.size 0 .none→h'.get? s.heap.objs.size=some o2→(∀b o,s.heap.get? b=some o→h'.get? b=some o)→KH c k it st h' (.ref (s.heap.objs.size+1)):=fun{it o1 o2 h'} he hd H h1 e1 h2 hk=>by
  subst e1
  have LT:=R.F.ns.lt
  have no:∀a,s.heap.objs.size≤a→c.h₀.get? a=none:=fun a ha=>by
   rcases e:c.h₀.get? a with _|o
   ·rfl
   ·exact absurd (Am (B4 (R.F.keep a o e)) ha) (CD _)
  refine⟨[],s.heap.objs.size+1,[(s.heap.objs.size+1,Gy s.heap.objs.size 0 .none),(s.heap.objs.size,o2)],rfl,⟨s.heap.objs.size,o2,H,.inr ⟨he,Nat.succ_ne_self _,.none,rfl⟩⟩,⟨R.addJ (R.F.keeps hk) (fun p hp=>?_) (by simp) fun q hq p hp=>?_⟩,.inl ⟨hd,rfl⟩⟩
  ·exact(AZ.mp hp).elim (fun e=>by rw[e];exact⟨h1,CT (Nat.lt_succ_of_lt LT),no _ (Nat.le_succ _)⟩) fun hp=>(AZ.mp hp).elim (fun e=>by rw[e];exact⟨h2,CT LT,no _ (Ak _)⟩) fun hp=>⟨hk _ _ (R.N p hp).1,(R.N p hp).2⟩
  ·have lt:=B4 (R.N p hp).1
   exact(AZ.mp hq).elim (fun e=>by rw[e];exact As (Nat.lt_succ_of_lt lt)) fun hq=>by rw[Ac.mp hq];exact As lt
 rcases a with _|_|_|_|⟨t⟩|_|_|_|⟨i⟩|_
 case obj=>
  refine JH P fun ob xs e1 e2 P=>R.list e1 e2 ha fun l vs n hv zz hs hL=>?_
  subst hv
  exact AR ha fun d hd hv=>call_enumerate_list hL fun h' hen hit hsz hk=>E2 hit fun o2 ho2 hc2 hd2=>fin (.list i true) _ h' P (add rfl rfl ⟨d,hd,hc2,by rw[hd2,GH hv]⟩ hen rfl ho2 hk) fun A K E' hK=>wpAny_pyIter_enum hen hK
 case str=>
  exact AA (show ∃u,x= .str t u from ha) fun u e=>by
   rw[e]
   exact call_enumerate_str fun h' hen hit hsz hk=>E2 hit fun o2 ho2 hc2 hd2=>fin (.str t true) _ h' P (add rfl rfl ⟨_,u,JP t,hc2,hd2,BX _⟩ hen rfl ho2 hk) fun A K E' hK=>wpAny_pyIter_enum hen hK
 all_goals exact P.elim
theorem UN {i:Nat}{d:DE}{ob:Obj}{es:List (V×V)}{st:St}{h:Heap}(R:Al (wJ c [(d.1,ob)]).fm k st h)(hd:k.D[i]? =some (some d))(e:st.heap[i]? =some (.fro es))(hall:(st.heap.set i (.dict es)).all Eg=true):Nonempty (Al c.fm k ⟨st.loc,st.heap.set i (.dict es)⟩ h):=by
 refine D6 (R.heap.split e) fun d' p1 L p2 e1 e2 e3 H=>BJ e3.2 fun d₁ ob' e4 e5 e6=>?_
 cases AG ((AG (hd.symm.trans e1)).trans e4)
 have row:=fun{p} (hp:p∈(wJ c [(d.1,ob)]).J)=>(R.N p (AX _ (B3 _ hp))).1
 have hob:ob'=ob:=AG ((row e5).symm.trans (row (B3 _ (.head _))))
 subst hob
 have z:=H (.dict es) (some d) [(d.1,ob')] ⟨d,[],d.1,ob',rfl,rfl,e6⟩
 rw[Ln hd] at z
 have e2:R.MO=p1++([]++p2):=by rw[e2,e3.1]
 have pm:CK ((p1++([(d.1,ob')]++p2))++(c.J++k.I)) (R.MO++(([(d.1,ob')]++c.J)++k.I)):=by
  rw[e2,AB [(d.1,ob')]]
  simp only[AB,Dr]
  exact DG p1 (BE p2 [(d.1,ob')] (c.J++k.I)).symm
 exact⟨⟨R.m,_,R.F,fun p hp=>R.N p (pm.mem_iff.mp hp),FR pm R.nd,R.loc,z.noFro hall⟩⟩
section
variable {r:GT}{d:Nat}(G:BS c d)(ev:∀k e,AY c k (CV c) (eval e c.env) (r.ev d e))(ow:HJ c)(fr:∀c',c'.tp=c.tp→c'.lv=c.lv→BS c' d→HJ c'→Nd c' d)
noncomputable def aD (it:It)(X:V→St→Ay):V→St→Ay:=match it with
 | .dict _=>fun zz zz=>.none
 |_=>X
theorem Rg (it:It)(m:M Fl)(st:St)(K:Fl→St→Ay)(X:V→St→Ay):JL it m st K X=m st K (aD it X):=by rcases it with _|_<;>rfl
include G ow fr in
theorem SD (hz:nz d=true){t:Expr}{b:List Stmt}{it:It}{st:St}{s:Shared}{v:Value}{K:Fl→St→Ay}{X:V→St→Ay}{o:Except V V×List O}{R:Result→Shared→Prop}(hb:KH c k it st s.heap v)
  (P:Y c.l o ((chk (Fj it t) ((JL it (MK d t it 0 b)).bind fun f=>(Iu it).bind fun zz=>.pure f)) st K X))(HQ:FV c (CF c.tp) k s K o (fun f s'=>R (.ok f) s'))(HE:G6 c k s X o (fun e s'=>R (.error e) s')):Bl c.M c.A (.forLoop t v b [] c.env) R s:=by
 refine GF P fun hok P=>AA hb fun Jd hb=>AA hb fun p hb=>AA hb fun L hb=>hb.2.2.1.elim fun Rl=>?_
 rw[hb.1]
 have P:Y c.l o (JL it (MK d t it 0 b) st (fun f s=>((Iu it).bind fun zz=>.pure f) s K X) X):=P
 rw[Rg] at P
 have HE':G6 (wJ c Jd) k s (aD it X) o (fun e s'=>R (.error e) s'):=by
  rcases it with _|_
  case dict i=>exact ER.errT (c:=wJ c Jd) ER.no
  all_goals exact hb.2.2.2.elim (fun z=>by rw[z.2];exact HE) fun z=>AA z fun i z=>AA z fun dd z=>AA z fun ob z=>(AS (congrArg Hj z.1).symm).elim
 refine fr (wJ c Jd) rfl rfl (G.wJ Jd) ow hz t b it 0 p L k st s _ _ o R hb.2.1 hok Rl P (fun k' fl flow st' h' tk l R' hf P'=>?_) HE'
 refine hb.2.2.2.elim (fun z=>?_) fun z=>AA z fun i z=>AA z fun dd z=>AA z fun ob z=>?_
 ·have Jd0:=z.2
  subst Jd0
  rw[z.1] at P'
  exact HQ k' fl flow st' h' tk l R' hf P'
 ·have z1:=z.1
  have z2:=z.2.1
  subst z1 z2
  have P':Y c.l o (((rd oF i).bind fun es=>fun s k (zz:V→St→Ay)=>.ite ((s.heap.set i (.dict es)).all Eg) (k () ⟨s.loc,s.heap.set i (.dict es)⟩) .none) st' (fun zz s=>K fl s) X):=P'
  exact JH (K:=fun zz s=>K fl s) P' fun ob' es e1 e2 P'=>ZV P' fun hall P'=>XT e2 fun q=>(UN R' (l.1 _ _ z.2.2) (q▸e1) hall).elim fun R2=>HQ k' fl flow _ h' tk l R2 hf P'
include G ev in
theorem Mh {iter:Expr}{st:St}{s:Shared}{α:Type}{g:It→M α}{K:α→St→Ay}{X:V→St→Ay}{o:Except V V×List O}{Q:Value→Shared→Prop}{E:Value→Shared→Prop}(R:Al c.fm k st s.heap)(P:Y c.l o (((K4 r d iter).bind g) st K X))(HE:Fy c k s X o E)
  (fin:∀k' it st' v h' tk,BI k k'→Y c.l o (g it st' K X)→KH c k' it st' h' v→Q v {s with heap:=h',toks:=tk}):
  (∀x,foldedSetIterable iter c.env x=Bn x)∧wpAny c.M c.A (eval iter c.env) (fun x s₁=>wpAny c.M c.A (pyIter x) Q E s₁) E s:=by
 have P:Y c.l o (((chk (Js iter) (match LO iter with
  |some x=>chk (noStar x) ((E3 "enumerate").bind fun f=>chk (NP f) ((r.ev d x).bind IW))
  |none=>(r.ev d iter).bind QM)).bind g) st K X):=P
 refine GF (m:=(match LO iter with
  |some x=>chk (noStar x) ((E3 "enumerate").bind fun f=>chk (NP f) ((r.ev d x).bind IW))
  |none=>(r.ev d iter).bind QM)) P fun hns P=>?_
 refine⟨SE hns c.env,?_⟩
 revert P
 rcases he:LO iter with _|x
 ·
  exact fun P=>ev k iter k st s _ X o _ _ (.refl _) R P (fun k1 a x st1 h1 t1 l1 R1 hx P1=>TP (s:={s with heap:=h1,toks:=t1}) G.1 R1 hx P1 fun it st' v h' P2 hb=>fin _ _ _ _ _ _ l1 P2 hb) HE
 ·
  refine Wf (P:=fun iter=>_→wpAny c.M c.A (eval iter c.env) _ E s) he fun np pos' P=>?_
  refine GF (m:=(E3 "enumerate").bind fun f=>chk (NP f) ((r.ev d x).bind IW)) P fun hs P=>?_
  refine AD (AY.name G.1 k st s _ X o _ _ (.refl _) R P (fun k1 a f st1 h1 t1 l1 R1 hf P1=>?_) HE)
  rcases a with _|_|_|_|_|_|_|_|_|_|_|_|_|_|⟨m⟩|_
  case ty=>
   refine GF (m:=(r.ev d x).bind IW) P1 fun hm P1=>?_
   have hm:m="enumerate":=beq_iff_eq.mp hm
   subst hm
   rw[show f= .type "enumerate" from hf]
   show wpAny c.M c.A (callWith pos' (.type "enumerate") [] (backTo pos' (DK [x] c.env)) []) _ E _
   refine callWith_type1 (env:=c.env) (e:=x) (rest:=[]) ?_ (GW hs [] c.env)
   rw[GW hs]
   refine spliced_cons (ev k1 x k1 st1 _ _ X o _ _ (.refl _) R1 P1 (fun k2 a v st2 h2 t2 l2 R2 hv P2=>spliced_nil (Q1 (s:={s with heap:=h2,toks:=t2}) G.1 R2 hv P2 fun it u h' P3 hb hit=>hit _ _ _ (fin _ _ _ _ _ _ (l1.trans l2) P3 hb))) (HE.ext l1))
  all_goals exact P1.elim
include G ev ow fr in
theorem W9 (hz:nz d=true){t iter:Expr}{b:List Stmt}{pos:Pos}:AY c k (CF c.tp) (exec (.For t iter b [] pos) c.env) ((K4 r d iter).bind fun it=>chk (Fj it t) ((JL it (MK d t it 0 b)).bind fun f=>(Iu it).bind fun zz=>.pure f)):=by
 intro k₁ st s K X o Q E l R P HQ HE
 refine(fun z=>wpAny_For z.2 z.1) (Mh (Q:=fun v s'=>Bl c.M c.A (.forLoop t v b [] c.env) (fun r s''=>match r with| .ok f=>Q f s''| .error e=>cameBackBy c.M c.A c.env E e s'') s') G ev R P HE ?_)
 exact fun k' it st' v h' tk l' P' hb=>SD G ow fr hz hb P' (HQ.ext l') (HE.back.ext l')
end
end
theorem Ow {ob:Obj}{vs:Array Value}(h:ob.data= .fields vs):notCls ob=true:=by unfold notCls;rw[h]
section
variable {prog:C0}{w:World}{A:Around}{E:Value→Shared→Prop}{s:Shared}{env:Env}{C e dx:Addr}{B:Heap}{outer:List Env}{h₀:Heap}
theorem Q5 {x:Sem Value}{Q:Flow→Shared→Prop}(hh:A.handled=none)
  (h:wpAny (model prog w) A x (fun v s₁=>∃e C B l dx,v= .ref e∧Ic (model prog w) s₁.heap C∧FU B l e (.ref C) dx s₁.heap∧∀h',FU B l e (.ref C) dx h'→s₁.heap.UpToSlots h'→E (.ref e) {s₁ with heap:=h'}) E s):
  wpAny (model prog w) A (raiseStmt env (some x) none) Q E s:=by
 unfold raiseStmt
 refine AD (Br h (fun v s₁ h₁=>?_) fun zz zz x=>x)
 obtain⟨e,C,B,l,dx,rfl,Y,fl,hE⟩:=h₁
 refine FF fl.obj fun oe vs he hc hdx hd ht=>?_
 have to:Looks (model prog w) s₁.heap (typeOf (.ref e)) (.ref C):=hc▸(Looks.ld he).andThen .now
 have ty:Looks (model prog w) s₁.heap (isType (.ref e)) false:=by
  unfold isType
  refine(Looks.ld he).andThen ?_
  rw[hd]
  exact .now
 refine AD (AJ ?_)
 refine AD (BA ?_)
 refine AD (AD (ty.here ?_))
 refine AJ ?_
 refine AD (Looks.here (to.andThen Y.root) ?_)
 refine AJ ?_
 refine AD (ty.here ?_)
 refine AD (AD (to.here ?_))
 refine AD (Y.metaT.here ?_)
 refine AJ ?_
 exact AD (IT fl fun h' f zz u=>wpAny_raiseNew_none hh (hE h' f u))
theorem Wd (Y:Ic (model prog w) s.heap C)(fl:FU B outer e (.ref C) dx s.heap){Q:Bool→Shared→Prop}(h:Q true s):wpAny (model prog w) A (excMatches (.ref e) (.ref C)) Q E s:=by
 refine FF fl.obj fun oe vs he hc hdx hd ht=>?_
 have to:Looks (model prog w) s.heap (typeOf (.ref e)) (.ref C):=hc▸(Looks.ld he).andThen .now
 refine AD (Y.noTup.here ?_)
 refine AD (AJ ?_)
 refine AD (AD (AD (AD (Y.ty.here ?_))))
 refine Y.root.here ?_
 refine AJ (AJ ?_)
 refine AD (to.here ?_)
 refine AD (AD (AD (Y.self.here ?_)))
 refine AJ (AJ (AJ ?_))
 exact h
end
section
variable {c:Cx}{k:Kn}{st:St}{h:Heap}{a:V}{e:Addr}
theorem DC.land (ow:HJ c)(hb:c.h₀=c.base)(R:DC c.fm c.outer k st h a e){Z:Prop}(K:∀oe,Al c.fm ⟨k.D,(e,oe)::k.I⟩ st h→Ag c.tp ⟨k.D,(e,oe)::k.I⟩ a (.ref e)→Z):Z:=by
 refine FF R.fly.obj fun oe vs he hc hdx hd ht=>?_
 obtain⟨⟨rest,hr⟩,hf⟩:=ow
 have hm:c.env.locals∈c.outer.filterMap (·.frame):=List.mem_filterMap.mpr ⟨c.env,by rw[hr];exact .head _,hf⟩
 obtain⟨hB,o,ho,hn⟩:=R.fly.frames.mem hm
 have pm:=Q8 R.MO c.J [(e,oe)] k.I
 have hne:e≠c.env.locals:=fun z=>hn vs (AG (ho.symm.trans (z▸he))▸hd)
 have h0:c.h₀.get? e=none:=by
  rcases q:c.h₀.get? e with _|o'
  ·rfl
  ·rw[hb] at q;have:=R.base _ _ q;rw[R.fly.new] at this;cases this
 have F:Fr c.h₀ c.env.locals h R.m:=⟨R.ns,fun b o q=>R.fly.stays b o (R.base b o (show c.base.get? b=some o from hb▸q)),R.above⟩
 refine K oe ⟨R.m,R.MO,F,fun p hp=>?_,FR pm ?_,R.loc.mono (BI.more [(e,oe)]),R.heap.mono (BI.more [(e,oe)])⟩ ?_
 ·refine(AZ.mp (pm.mem_iff.mp hp)).elim (fun q=>by rw[q];exact⟨he,hne,h0⟩) fun q=>⟨R.fly.stays _ _ (R.rows p q).1,fun z=>?_,(R.rows p q).2⟩
  have:=(R.rows p q).1
  rw[z,hB] at this;cases this
 ·refine Hp (FC ..) R.nd fun q hq p hp z=>?_
  rw[Ac.mp hq] at z
  have:=(R.rows p hp).1
  rw[z,R.fly.new] at this;cases this
 ·rw[R.val]
  exact⟨e,R.dx,R.es,R.n,⟨oe,.head _,hc,hdx,Ow hd⟩,.tail _ R.row,R.flds.mono (BI.more [(e,oe)]),rfl⟩
theorem WR {S:BD}{j:Nat}(h:Ct S j=true):∃q,S.cls j=some q:=by
 unfold Ct at h
 rcases e:S.cls j with _|q
 ·rw[e] at h;cases h
 ·exact⟨q,rfl⟩
theorem DC.mk_makes {M:Model}(G:Good c)(T:EV c.tp)(R:DC c.fm c.outer k st h a e):Ic M h (c.ac R.j):=
 AA (WR R.isx) fun q hq=>Mp ((G.top.X.keeps R.base).keeps R.fly.stays) ((T.make _ q hq).exc R.isx)
noncomputable abbrev Ij (c:Cx)(e:Value):Cx:=⟨c.fm,c.A.mark (some e),c.outer,c.lv⟩
theorem Good.mark {e:Value}(G:Good c):Good (Ij c e):=⟨G.top,G.kind,G.gl,G.bi,G.frames,G.stays,G.ff⟩
theorem BS.mark {d:Nat}{e:Value}(G:BS c d):BS (Ij c e) 0:=⟨G.1.mark,by have:=G.2;show c.A.units+8 * 0+20≤cLine;lia,by have:=G.3;show c.A.depth+2 * 0≤900;lia,fun z=>(nomatch z),.inl (by decide)⟩
theorem O9 {φ:Fm}{m:Str→Option Value}{loc:List (Str×V)}(L:J0 φ k m loc){n:Str}{u v:V}(e:Co n loc=some u)(hp:GX u v=true):φ.env.kindOf n=some .local:=by
 refine(L n u e).2.elim (fun z=>z.1) fun z=>z.elim (fun z=>?_) fun z=>z.2.elim fun i z=>z.elim fun q z=>z.elim fun zz z=>?_
 ·have h:=z.2.2
  rcases u with _|_<;>first|exact(AS h).elim|exact(AS hp).elim
 ·rw[z.1] at hp;cases hp
theorem Wo {v:V}{cc:Nat}(h:Le v=some cc){G:Prop}(k:v= .cls cc→G):G:=by
 rcases v with _|_<;>first|exact AU h|exact k (congrArg V.cls (AG h))
theorem RJ (G:BS c Gp)(ow:HJ c)(T:EV c.tp){r:GT}(exB:∀k s,AY c k (CF c.tp) (exec s c.env) (r.ex Gp s))(exH:∀c',c'.tp=c.tp→c'.lv=c.lv→BS c' 0→HJ c'→∀k s,AY c' k (CF c'.tp) (exec s c'.env) (r.ex 0 s))
  {b bs:List Stmt}{bb:Stmt}{x n:Str}{xp hpos:Pos}:AY c k (CF c.tp) (tryStmt false (execs b c.env) [.ExceptHandler (some (.Name x xp)) (some n) (bb::bs) hpos] (execs [] c.env) [] c.env) (fun s k e=>Cy r Gp b s k fun x' s'=>I2 (Y7 r Gp (x,xp,n,bb::bs) x') s' k e):=by
 have hb:c.h₀=c.base:=G.5.elim (fun z=>absurd z (CD _)) (·.2)
 intro k₁ st s K X o Q E l R P HQ HE
 refine wpAny_tryStmt_except (FK exB b k₁ st s _ _ o _ _ (.refl _) R P (fun k1 fl flow st1 h1 t1 l1 R1 hf P1=>?_) (fun k1 a st1 e h1 t1 l1 R1 P1=>?_))
 ·have q:=HQ k1 fl flow st1 h1 t1 l1 R1 hf P1
  rcases flow with _|_
  case next=>exact wpAny_execs_nil q
  all_goals exact q
 refine ow.1.elim fun rest hr=>Mx (s:={s with heap:=h1,toks:=t1}) hr G.1.frames ow.2 R1.fly fun h2 f2 tr2 u2=>?_
 refine IT (s:={s with heap:=h2,toks:=t1}) f2 fun h3 f3 tr3 u3=>?_
 have R3:=(R1.on f2 u2).on f3 u3
 have MX:=R3.mk_makes (M:=model c.prog c.w) G.1 T
 refine R3.land ow hb fun oe RL hc=>?_
 have P1:Y c.l o (((E3 x).bind fun cv=>(B2 (Le cv)).bind fun cc=>(B2 (XN a)).bind fun j=>chk (decide (j=cc)) ((FB n a).bind fun zz=>(Cy r 0 (bb::bs)).bind fun f=>(P0 n).bind fun zz=>.pure f)) st1 K fun zz zz=>.none):=P1
 have GM:=G.1.mark (e:=.ref e)
 have hdbg:(x==("__debug__":Str))=false:=(KZ (c:=Ij c (.ref e)) (s:={s with heap:=h3,toks:=t1}) (Q:=fun zz zz=>True) (E:=fun zz zz=>True) GM RL P1 fun zz zz zz zz=>trivial).1
 refine wpAny_handleBy_cons (codeAny_handlers_test (wpAny_Name (KZ (c:=Ij c (.ref e)) (s:={s with heap:=h3,toks:=t1}) GM RL P1 fun a' b' hcc P2=>?_).2 hdbg)) (by intro q;cases q)
 refine Bh P2 fun cc e1 P2=>Bh P2 fun j e2 P2=>GF P2 fun hj P2=>?_
 have hj:=of_decide_eq_true hj
 have hb':b'= .ref (c.ac R3.j):=by
  have z:=R3.val
  rw[z] at e2
  have e2:=AG e2
  rw[←e2] at hj
  exact Wo e1 fun ea=>by
   subst ea
   rw[show b'= .ref (c.ac cc) from hcc,←hj]
 subst hb'
 refine Wd (s:={s with heap:=h3,toks:=t1}) MX R3.fly ?_
 refine codeAny_handlers_suite_as (IT (s:={s with heap:=h3,toks:=t1}) R3.fly fun h4 f4 tr4 u4=>?_)
 refine(R3.on f4 u4).land ow hb fun oe4 RL4 hc4=>?_
 refine AY.store (c:=Ij c (.ref e)) GM hc4 _ st1 {s with heap:=h4,toks:=t1} _ _ o _ _ (.refl _) RL4 P2 (fun k5 zz zz st5 h5 t5 l5 R5 zz P5=>?_) Fy.no
 refine FK (c:=Ij c (.ref e)) (exH (Ij c (.ref e)) rfl rfl G.mark ow) (bb::bs) k5 st5 _ _ _ o _ _ (.refl _) R5 P5 (fun k6 fl flow st6 h6 t6 l6 R6 hf P6=>?_) Fy.no
 refine Bh P6 fun u e6 P6=>JY P6 fun hp P6=>?_
 have hl:=O9 R6.loc e6 hp
 refine wpAny_nameGoes (s:={s with heap:=h6,toks:=t6}) hl R6.F.ns (by rw[G.1.kind];rfl) fun h7 m' hn hsb=>?_
 exact HQ k6 fl flow ⟨[],st6.heap⟩ h7 _ (l1.trans ((BI.more [(e,oe4)]).trans (l5.trans l6))) ⟨m',R6.MO,R6.F.set hn hsb,R6.N.set hsb,R6.nd,fun x a q=>AU q,R6.heap⟩ hf P6
theorem Q6 {env:Env}{as:List Expr}{x:Str}{xp cp pos:Pos}:exec (.Raise (some (.Call (.Name x xp) as [] cp)) none pos) env=(D3 pos >>= fun zz=>raiseStmt env (some (eval (.Call (.Name x xp) as [] cp) env >>= fun v=>D3 pos >>= fun zz=>Bn v)) none):=rfl
theorem RO {d:Nat}(G:BS c d)(T:EV c.tp)(IH:∀c' d',c'.tp=c.tp→c'.lv=c.lv→EI c' d'→Jb c' d'){r:GT}(ev:∀k e,AY c k (CV c) (eval e c.env) (r.ev d e)){as:List Expr}{x:Str}{xp cp pos:Pos}:
  AY c k (CF c.tp) (exec (.Raise (some (.Call (.Name x xp) as [] cp)) none pos) c.env) (RX c.S r d (x,xp,as)):=by
 refine .chk fun h=>?_
 have h:=AP.mp h
 rw[Q6]
 refine .stand fun k₁ st s K X o Q E l R P HQ HE=>Q5 (G.4 h.1) (AD (wpAny_Call_ofName ?_))
 have P:Y c.l o (((E3 x).bind fun fv=>(B2 (Le fv)).bind fun j=>(IV r d as).bind fun vs=>chk (BF vs.length) (Nk (QT c.S d j vs))) st K X):=P
 refine AY.name G.1 k₁ st s _ X o _ _ (.refl _) R P (fun k1 fv f st1 h1 t1 l1 R1 hf P1=>?_) HE
 refine Bh P1 fun j e1 P1=>?_
 have hf:f= .ref (c.ac j):=by
  rcases fv with _|_|_|_|_|_|_|_|_|_|⟨q⟩|_
  case cls=>rw[show f= .ref (c.ac q) from hf,show q=j from AG e1]
  all_goals exact AU e1
 subst hf
 refine KN (s:={s with heap:=h1,toks:=t1}) (ks:=[]) (m:=fun vs kvs=>chk kvs.isEmpty (chk (BF vs.length) (Nk (QT c.S d j vs)))) ev h.2 (fun h X=>keeps_K (T.keepc _) h X) G.1 R1 P1 (HE.ext l1) fun k2 xs vs kx kv st2 h2 t2 l2 R2 hs hk P2=>?_
 refine GF P2 fun he P2=>GF P2 fun hl P2=>?_
 rw[hk.nil he]
 refine wpAny_call ?_
 refine AA (show ∃q,c.S.cls j=some q from Bh (show Y c.l o (oB (c.S.cls j) _) from P2) fun q e zz=>⟨q,e⟩) fun q hq=>?_
 refine UQ (s:={s with heap:=h2,toks:=t2}) G.1 (T.make j q hq) hq (AM (by rw[←hs.length];exact Bg hl) Cv) (fun k' i v l hi=>IH (IM c) d rfl rfl G.under q.init k' _ _ _ _ ⟨v,_,hi,hs.mono l,rfl⟩ rfl) (.refl _) R2 P2 fun k3 a e hp h3 t3 l3 R3 P3=>?_
 exact AD (Bz (AJ ⟨e,_,R3.B,c.outer,R3.dx,rfl,R3.mk_makes G.1 T,R3.fly,fun h' f u=>HE k3 a ⟨st2.loc,hp⟩ e h' t3 (l1.trans (l2.trans l3)) (R3.on f u) P3⟩))
end
theorem Nn {e:Expr}(h:EA e=false)(t:Option Expr)(n:Nat)(env:Env):swapsWith e t n env=Bn false:=by
 rcases e with _|_<;>first|rfl|exact(AS h.symm).elim
theorem Pu {t e:Expr}(h:Jp t e=true)(hc:EA e=false)(env:Env):swappedStores [t] e env=Bn none:=by
 rcases t with _|_|_|_|_|_|_|_|_|_|_|_|_|_|_|_|_|_|_|_|⟨o,n,p⟩|⟨o,i,p⟩|_|⟨x,p⟩|_|⟨ts,n,p⟩|_
 case Name=>rfl
 case Attribute=>rfl
 case Subscript=>rfl
 case Tuple=>
  rcases e with _|_|_|_|_|_|_|_|_|_|_|_|_|_|_|_|⟨f,as,ks,q⟩|_|_|_|_|⟨v,i,q⟩|_
  case Subscript=>rfl
  case Call=>rfl
  all_goals exact(AS h).elim
 all_goals exact(AS h).elim
theorem Qz {env:Env}{x:Str}{xp q:Pos}{elt:Expr}{gs:List Comprehension}{sc:Scope}(hk:env.scope.kind= .function)(hl:env.kindOf x=some .local)(h:JD x xp (.ListComp elt gs sc q)=true)(n:Nat):
  swapsWith (.ListComp elt gs sc q) (some (.Name x xp)) n env=Bn true:=by
 have h:=AP.mp h
 show(Bn (env.blockKind== .function&&env.kindOf x==some .local&&xp.line==q.line&& !(sc.names.any fun p=>p.1==x&&(p.2== .local||p.2== .cell))):Sem Bool)=_
 have hb:env.blockKind= .function:=by unfold Env.blockKind;rw[hk];rfl
 rw[hb,hl,h.1,h.2]
 rfl
theorem PJ {t e:Expr}(h:Jp t e=true){G:Prop}(k1:∀x p,t= .Name x p→G)(k2:∀o a p,t= .Attribute o a p→G)(k3:∀o i p,t= .Subscript o i p→G)(k4:∀ts n p,t= .Tuple ts n p→G):G:=by
 rcases t with _|_<;>first|exact(AS h).elim|exact k1 _ _ rfl|exact k2 _ _ _ rfl|exact k3 _ _ _ rfl|exact k4 _ _ _ rfl
theorem T4 {x:Str}{xp:Pos}{e:Expr}(h:JD x xp e=true){G:Prop}(k:∀elt gs sc q,e= .ListComp elt gs sc q→G):G:=by
 rcases e with _|_<;>first|exact(AS h).elim|exact k _ _ _ _ rfl
theorem UJ {t e:Expr}{pos:Pos}{env:Env}(h:Jp t e=true)(hc:EA e=false):exec (.Assign [t] e pos) env=(D3 pos >>= fun zz=>eval e env >>= fun v=>assignAll v [assign t env] >>= fun zz=>Bn .next):=by
 rw[arm_exec_Assign]
 show(D3 pos >>= fun zz=>swapsWith e (some t) pos.line env >>= _)=_
 rw[Nn hc,Pu h hc]
 refine PJ h (fun zz zz z=>?_) (fun zz zz zz z=>?_) (fun zz zz zz z=>?_) fun zz zz zz z=>?_<;>(subst z;rfl)
theorem T5 {t e:Expr}(hc:EA e=false):Pv t e=M.pure ():=by
 rcases t with _|_<;>first|rfl|(show(bif EA e then _ else _)=_;rw[hc];rfl)
theorem Ug {t e:Expr}(h:Jp t e=true)(hc:EA e=true):∃x xp elt gs sc q,t= .Name x xp∧e= .ListComp elt gs sc q∧JD x xp (.ListComp elt gs sc q)=true:=by
 have no:(!EA e)=true→False:=fun h=>by rw[hc] at h;exact AS h
 refine PJ h (fun x p z=>?_) (fun zz zz zz z=>?_) (fun zz zz zz z=>?_) fun zz zz zz z=>?_<;>subst z
 ·have h:(!EA e||JD x p e)=true:=h
  rw[hc] at h
  exact T4 h fun elt gs sc q z=>⟨x,p,elt,gs,sc,q,rfl,z,z▸h⟩
 ·exact(no h).elim
 ·exact(no h).elim
 ·have h:(C1 e.ctorIdx 21||C1 e.ctorIdx 16)=true:=h
  have hc:(C1 e.ctorIdx 8||C1 e.ctorIdx 9||C1 e.ctorIdx 10)=true:=hc
  refine((Bool.or_eq_true_iff.mp h).elim (fun h=>?_) fun h=>?_:False).elim<;>(rw[Dq h] at hc;exact AS hc)
section
variable {c:Cx}{k:Kn}{r:GT}{d:Nat}(G:BS c d)(T:EV c.tp)(ev:∀k e,AY c k (CV c) (eval e c.env) (r.ev d e))(evu:∀k elt gs sc p x xp,c.env.kindOf x=some .local→AY c k CU (evalThenUse (.ListComp elt gs sc p) c.env (assign (.Name x xp) c.env)) ((r.ev d (.ListComp elt gs sc p)).bind fun v=>FB x v))(tr:∀k e,AY c k CB (isTrue e c.env (eval e c.env)) (r.tr d e))
 (ow:HJ c)(ca:∀c' d',c'.tp=c.tp→c'.lv=c.lv→EI c' d'→Jb c' d')(ex:∀k s,AY c k (CF c.tp) (exec s c.env) (r.ex d s))(exH:∀c',c'.tp=c.tp→c'.lv=c.lv→BS c' 0→HJ c'→∀k s,AY c' k (CF c'.tp) (exec s c'.env) (r.ex 0 s))(wl:∀k t b,Lj c k (.whileLoop t b [] c.env) (Go d t b))(fr:∀c',c'.tp=c.tp→c'.lv=c.lv→BS c' d→HJ c'→Nd c' d)
theorem YJ {e:Expr}{q:Expr×Expr×Pos}(h:YK e=some q):∃p,e= .Subscript q.1 q.2.1 p:=by
 rcases e with _|_<;>first|exact AU h|exact AG h▸⟨_,rfl⟩
theorem Tk {x cc:Option Expr}{q:Str×Pos×List Expr}(h:RY x cc=some q):∃p,x=some (.Call (.Name q.1 q.2.1) q.2.2 [] p)∧cc=none:=by
 rcases x with _|x
 ·exact AU h
 ·
  rcases cc with _|c
  ·
   refine AR (Af.mp h) fun w hw h=>?_
   refine Dm (Ph hw) fun ks p e hk=>?_
   obtain⟨f,as,b⟩:=w
   rcases b with _|_
   ·exact AU h
   ·
    refine AR (Ar.mp h) fun n hn e2=>?_
    have hn:=MB hn
    have hn:f=_:=hn
    subst hn e e2
    exact⟨p,by rw[CP.mp hk],rfl⟩
  ·exact AU h
theorem Xx {hs:List ExceptHandler}{q:Str×Pos×Str×List Stmt}(h:U7 hs=some q){G:Prop}(kk:∀x xp n b bs p,hs=[.ExceptHandler (some (.Name x xp)) (some n) (b::bs) p]→q=(x,xp,n,b::bs)→G):G:=by
 rcases hs with _|⟨h1,hs⟩
 ·exact AU h
 ·
  obtain⟨t,n,b,p⟩:=h1
  rcases t with _|t
  ·exact AU h
  ·
   rcases n with _|n
   ·exact AU h
   ·
    rcases b with _|⟨b,bs⟩
    ·exact AU h
    ·
     rcases hs with _|_
     ·
      refine AR (Ar.mp h) fun w hw e=>?_
      subst e
      have hw:=MB hw
      exact kk w.1 w.2 n b bs p (by rw[hw]) rfl
     ·exact AU h
theorem V4 {α:Type}{l:List α}{a:α}(h:QC l=some a):l=[a]:=by
 rcases l with _|⟨b,l⟩
 ·exact AU h
 ·
  rcases l with _|_
  ·exact congrArg (fun x=>[x]) (AG h)
  ·exact AU h
include G T ev evu in
theorem Q2 {ts:List Expr}{e:Expr}{pos:Pos}:AY c k (CF c.tp) (exec (.Assign ts e pos) c.env) ((B2 (QC ts)).bind fun t=>chk (Jp t e) ((Pv t e).bind fun zz=>(r.ev d e).bind fun v=>(Hl c.S r d t v).bind fun zz=>.pure .next)):=by
 refine .look fun t ht=>.chk fun h=>?_
 rw[V4 ht]
 rcases hc:EA e with _|_
 ·rw[UJ h hc,T5 hc]
  show AY c k (CF c.tp) _ ((r.ev d e).bind fun v=>(Hl c.S r d t v).bind fun zz=>.pure .next)
  exact .stand (.bind (ev k e) fun k' a v l hv=>.bind (Ie G T ev t hv) fun zz zz zz zz zz=>.pure fun zz zz=>rfl)
 ·refine AA (Ug h hc) fun x e=>AA e fun xp e=>AA e fun elt e=>AA e fun gs e=>AA e fun sc e=>AA e fun q e=>?_
  obtain⟨e1,e2,h⟩:=e
  subst e1 e2
  intro k₁ st s K X o Q E l R P HQ HE
  refine Bh P fun u eu P=>JY P fun hu P=>?_
  have hl:c.env.kindOf x=some .local:=O9 R.loc eu (v:=.none) (AP.mpr ⟨hu,rfl⟩)
  rw[exec_Assign_Name_used _ _ _ _ (Qz G.1.kind hl h _)]
  refine AD (Bz (AD ?_))
  exact evu k₁ elt gs sc q x xp hl k₁ st s (fun zz s=>K .next s) X o _ E (.refl _) R P (fun k' zz zz st' h' tk l' R' zz P'=>AJ (HQ k' .next .next st' h' tk l' R' rfl P')) HE
include G T ev in
theorem TX {t:Expr}{op:Operator}{e:Expr}{pos:Pos}:AY c k (CF c.tp) (exec (.AugAssign t op e pos) c.env) (Yc c.S r d t op e):=by
 rcases t with _|_|_|_|_|_|_|_|_|_|_|_|_|_|_|_|_|_|_|_|⟨o,n,p⟩|_|_|⟨x,p⟩|_
 case Name=>
  rw[arm_exec_AugAssign]
  show AY c k (CF c.tp) _ ((E3 x).bind fun old=>(r.ev d e).bind fun v=>(Oj op old v).bind fun n=>(FB x n).bind fun zz=>.pure .next)
  exact .stand (.bind (.load G.1) fun k1 a v l1 hv=>.bind (.hold (ev k1 e)) fun k2 b w l2 hw=>.stand (.bind (.operating (PC (hv.mono l2) hw)) fun k3 n u l3 hu=>.stand (.bind (.bindName G.1 hu) fun zz zz zz zz zz=>.pure fun zz zz=>rfl)))
 case Attribute=>
  rw[arm_exec_AugAssign_2]
  show AY c k (CF c.tp) _ ((r.ev d o).bind fun ov=>(KA c.S ov n).bind fun old=>(r.ev d e).bind fun v=>(Oj op old v).bind fun m=>(Hn c.S ov n m).bind fun zz=>.pure .next)
  refine .stand (.bind (ev k o) fun k0 a x l0 hx=>fun k₁ st s K X o Q E l R P HQ HE=>AD (BA (AD (Bz (AD ?_)))))
  refine Nz G.1 T.cls (hx.mono l) k₁ st s _ X o _ _ (.refl _) R P (fun k1 old ov st1 h1 t1 l1 R1 ho P1=>AD (BA ?_)) HE
  refine ev k1 e k1 st1 _ _ X o _ _ (.refl _) R1 P1 (fun k2 b y st2 h2 t2 l2 R2 hy P2=>AD (Bz (wpAny_operating ?_))) (HE.ext l1)
  refine PC (ho.mono l2) hy k2 st2 _ _ X o _ _ (.refl _) R2 P2 (fun k3 n nv st3 h3 t3 l3 R3 hn P3=>AD (Bz (AD (BA ?_)))) (HE.ext (l1.trans l2))
  exact KI G.1 T.cls (hx.mono (l.trans (l1.trans (l2.trans l3)))) hn k3 st3 _ _ X o _ _ (.refl _) R3 P3 (fun k4 zz zz st4 h4 t4 l4 R4 zz P4=>AD (wpAny_release (AJ (HQ k4 .next .next st4 h4 t4 (l1.trans (l2.trans (l3.trans l4))) R4 rfl P4)))) (HE.ext (l1.trans (l2.trans l3)))
 all_goals exact .stuck
include G T ev evu tr ow ca ex exH wl fr in
theorem W4 (st:Stmt):AY c k (CF c.tp) (exec st c.env) (aQ c.S r d st):=by
 rcases st with _|_|_|⟨v,pos⟩|⟨ts,pos⟩|⟨ts,e,pos⟩|_|⟨t,op,e,pos⟩|_|⟨t,iter,b,o,pos⟩|_|⟨t,b,o,pos⟩|⟨t,b,o,pos⟩|_|_|_|⟨x,cc,pos⟩|⟨b,hs,o,f,pos⟩|_|_|_|_|_|_|⟨e,pos⟩|_
 case Expr=>
  exact .chk fun h=>fun k₁ st s K X o Q E l R P HQ HE=>wpAny_Expr_any (ev k₁ e k₁ st s _ X o _ _ (.refl _) R P (fun k1 v x st1 h1 t1 l1 R1 hx P1=>HQ k1 .next .next st1 h1 t1 l1 R1 rfl P1) HE) (by unfold interactive;rw[G.1.kind];rfl) (Nn (by revert h;cases EA e<;>simp) _ _ _)
 case Return=>
  rcases v with _|e
  ·exact .stand (.pure fun zz zz=>⟨.none,rfl,rfl⟩)
  ·
   show AY c k (CF c.tp) (D3 pos >>= fun zz=>eval e c.env >>= fun v=>Bn (.ret v)) ((r.ev d e).bind fun v=>.pure (.ret v))
   exact .stand (.bind (ev k e) fun k' a v l hv=>.pure fun zz l'=>⟨v,rfl,hv.mono l'⟩)
 case Assign=>exact Q2 G T ev evu
 case AugAssign=>exact TX G T ev
 case Delete=>
  refine .look fun t ht=>.look fun q hq=>?_
  rw[V4 ht,arm_exec_Delete]
  refine AA (YJ hq) fun sp hsp=>?_
  obtain⟨o,i,sq⟩:=q
  subst hsp
  show AY c k (CF c.tp) (D3 pos >>= fun zz=>(delete (.Subscript o i sp) c.env >>= fun zz=>Bn ()) >>= fun zz=>Bn .next) _
  refine .stand fun k₁ st s K X o' Q E l R P HQ HE=>AD (AD (delete_Subscript ?_))
  refine ev k₁ o k₁ st s _ X o' _ _ (.refl _) R P (fun k1 a x st1 h1 t1 l1 R1 hx P1=>?_) HE
  refine ev k1 i k1 st1 _ _ X o' _ _ (.refl _) R1 P1 (fun k2 b y st2 h2 t2 l2 R2 hy P2=>?_) (HE.ext l1)
  exact Op (hx.mono l2) hy k2 st2 _ _ X o' _ _ (.refl _) R2 P2 (fun k3 zz zz st3 h3 t3 l3 R3 zz P3=>AJ (AJ (HQ k3 .next .next st3 h3 t3 (l1.trans (l2.trans l3)) R3 rfl P3))) (HE.ext (l1.trans l2))
 case If=>
  rw[arm_exec_If]
  show AY c k (CF c.tp) _ ((r.tr d t).bind fun q=>Ej q (Cy r d b) (Cy r d o))
  refine .stand (.bind (tr k t) fun k' q q' l hq=>?_)
  cases (show q=q' from hq)
  exact .ite (fun h=>by subst h;exact FK ex b) fun h=>by subst h;exact FK ex o
 case While=>
  refine .chk fun h=>?_
  rw[CP.mp (AP.mp h).2]
  exact fun k₁ st s K X o Q E l R P HQ HE=>wpAny_While (wl k₁ t b k₁ st s K X o _ (.refl _) R P HQ HE.back)
 case For=>
  refine .chk fun h=>?_
  have h:=AP.mp h
  rw[CP.mp h.2]
  exact W9 G ev ow fr h.1
 case Try=>
  refine .chk fun h=>?_
  have h:=AP.mp h
  rw[CP.mp h.1,CP.mp h.2,arm_exec_Try]
  refine .stand ?_
  have plain:AY c k (CF c.tp) (tryStmt false (execs b c.env) hs (execs [] c.env) [] c.env) (I2 (Cy r d b)):=fun k₁ st s K X o Q E l R P HQ HE=>by
   unfold tryStmt
   refine AD (wpAny_attempt (FK ex b k₁ st s _ _ o _ _ (.refl _) R P (fun k1 fl flow st1 h1 t1 l1 R1 hf P1=>?_) Fy.no))
   have q:=HQ k1 fl flow st1 h1 t1 l1 R1 hf P1
   rcases flow with _|_
   case next=>exact wpAny_execs_nil q
   all_goals exact AJ q
  show AY c k (CF c.tp) _ (T3 r d b hs)
  unfold T3
  rcases hh:U7 hs with _|q
  ·exact plain
  ·
   rcases hz:C1 d Gp with _|_
   ·exact plain
   ·
    have hz:=Dq hz
    subst hz
    refine Xx hh fun x xp n bb bs p e1 e2=>?_
    subst e1 e2
    exact RJ G ow T ex exH
 case Raise=>
  refine .look fun q hq=>?_
  refine AA (Tk hq) fun p e=>?_
  obtain⟨y,yp,as⟩:=q
  obtain⟨e1,e2⟩:=e
  subst e1 e2
  exact RO G T ca ev
 all_goals exact .stuck
end
noncomputable abbrev Gq (ifs:List Expr)(env:Env)(b:Bool):Sem Bool:=forIn ifs b fun c r=>if r=true then do let ok ←isTrue c env (eval c env);pure (DP ok) else pure (DP r)
theorem UO {prog:C0}{w:World}{A:Around}{R:Result→Shared→Prop}{s:Shared}{elt target iter:Expr}{ifs:List Expr}{scope:Scope}{pos:Pos}{it acc:Value}{env:Env}
  (h:∀E,wpAny (model prog w) A (pyNext it) (fun r s₁=>match r with
   |none=>R (.ok .next) s₁
   |some v=>wpAny (model prog w) A (letOwnedTupleGo target it v) (fun zz s₁'=>wpAny (model prog w) A (assign target env v) (fun zz s₂=>
     wpAny (model prog w) A (Gq ifs env true) (fun ok s₃=>
      if ok=true then wpAny (model prog w) A (eval elt env) (fun x s₄=>
       wpAny (model prog w) A (call (.builtin "list.append") [acc,x]) (fun zz s₅=>Bl (model prog w) A (.compLoop (.ListComp elt [⟨target,iter,ifs,0⟩] scope pos) 0 it acc env) R s₅) E s₄) E s₃
      else Bl (model prog w) A (.compLoop (.ListComp elt [⟨target,iter,ifs,0⟩] scope pos) 0 it acc env) R s₃) E s₂) E s₁') E s₁) E s):
  Bl (model prog w) A (.compLoop (.ListComp elt [⟨target,iter,ifs,0⟩] scope pos) 0 it acc env) R s:=by
 refine codeAny_of_tree ?_
 show wpAny _ A ((compTurn (.ListComp elt [⟨target,iter,ifs,0⟩] scope pos) 0 it acc env).onRaise (fun x=>do noteFrame x env;theTreesLotGoes x)) _ _ s
 refine wpAny_noted ?_
 rw[compTurn_list]
 refine AD (Bz (AD (Br (h _) (fun r s₁ h₁=>?_) fun zz zz h'=>h')))
 rcases r with _|v
 ·exact AJ h₁
 ·
  refine AD (Br h₁ (fun zz s₁' h₁'=>?_) fun zz zz h'=>h')
  refine AD (Br h₁' (fun zz s₂ h₂=>AD (Br h₂ (fun ok s₃ h₃=>?_) fun zz zz h'=>h')) fun zz zz h'=>h')
  rcases ok with _|_
  ·exact AJ ⟨rfl,h₃⟩
  ·exact AD (AD (Br h₃ (fun x s₄ h₄=>AD (Br h₄ (fun zz s₅ h₅=>AJ (AJ ⟨rfl,h₅⟩)) fun zz zz h'=>h')) fun zz zz h'=>h'))
theorem On (env:Env)(ifs:List Expr):Gq ifs env false=pure false:=by
 induction ifs with
 |nil=>rfl
 |cons e es ih=>
  unfold Gq at ih ⊢
  rw[D1]
  simp only[Cm,if_false]
  exact ih
theorem RB {c:Cx}{r:GT}{d:Nat}(tr:∀k e,AY c k CB (isTrue e c.env (eval e c.env)) (r.tr d e))(ifs:List Expr):∀{k:Kn},AY c k CB (Gq ifs c.env true) (Hf r d .And ifs):=by
 induction ifs with
 |nil=>exact .pure fun zz zz=>rfl
 |cons e es ih=>
  intro k
  unfold Gq
  rw[D1]
  simp only[if_true]
  show AY c k CB _ ((r.tr d e).bind fun t=>Ej t (Hf r d .And es) (.pure false))
  intro k₁ st s K X o Q E l R P HQ HE
  refine AD (AD (tr k₁ e k₁ st s _ X o _ _ (.refl _) R P (fun k1 q q' st1 h1 t1 l1 R1 hq P1=>AJ ?_) HE))
  cases (show q=q' from hq)
  rcases q with _|_
  ·
   show wpAny c.M c.A (Gq es c.env false) Q E _
   rw[On]
   exact AJ (HQ k1 false false st1 h1 t1 l1 R1 rfl P1)
  ·exact ih k1 st1 _ K X o Q E (.refl _) R1 P1 (HQ.ext l1) (HE.ext l1)
noncomputable def Ql (c:Cx)(d:Nat):Prop:=
 ∀elt t iter ifs sc pos it j p i x L k st s K X o Q,Fe c k it j p L→Fj it t=true→Ag c.tp k (.obj i) x→Al (wJ c L).fm k st s.heap→Y c.l o (Kf d elt t ifs it j i st K X)→
  FV c CU k s K o (fun zz s'=>Q (.ok .next) s')→ER c X o→nz d=true→Bl c.M c.A (.compLoop (.ListComp elt [⟨t,iter,ifs,0⟩] sc pos) 0 (.ref p) x c.env) Q s
theorem TU {c:Cx}{r:GT}{d:Nat}(G:BS c d)(T:EV c.tp)(ev:∀c',c'.tp=c.tp→c'.lv=c.lv→BS c' d→∀k e,AY c' k (CV c') (eval e c'.env) (r.ev d e))(tr:∀c',c'.tp=c.tp→c'.lv=c.lv→BS c' d→∀k e,AY c' k CB (isTrue e c'.env (eval e c'.env)) (r.tr d e))
  (cm:Ql c d){elt t iter:Expr}{ifs:List Expr}{sc:Scope}{pos:Pos}{it:It}{j i:Nat}{p:Addr}{xv:Value}{L:Ba}{k:Kn}{st:St}{s:Shared}{K:Unit→St→Ay}{X:V→St→Ay}{o:Except V V×List O}{Q:Result→Shared→Prop}(H:Fe c k it j p L)(hok:Fj it t=true)(hx:Ag c.tp k (.obj i) xv)(Rl:Al (wJ c L).fm k st s.heap)
  (P:Y c.l o (US c.S r d elt t ifs it j i st K X))(HQ:FV c CU k s K o (fun zz s'=>Q (.ok .next) s'))(HE:ER c X o)(hz:nz d=true):Bl c.M c.A (.compLoop (.ListComp elt [⟨t,iter,ifs,0⟩] sc pos) 0 (.ref p) xv c.env) Q s:=by
 refine UO fun E=>PU (G.4 hz) H Rl P fun q P=>?_
 rcases q with _|v
 ·exact fun ho=>ho _ _ fun h' tk hk=>HQ k () () st h' tk (.refl _) (Rl.endJ H.bare hk) trivial P
 ·
  refine fun ho=>Br (ho t (fun v s₂=>wpAny c.M c.A (assign t c.env v) (fun zz s₂=>
    wpAny c.M c.A (Gq ifs c.env true) (fun ok s₃=>
     if ok=true then wpAny c.M c.A (eval elt c.env) (fun y s₄=>
      wpAny c.M c.A (call (.builtin "list.append") [xv,y]) (fun zz s₅=>Bl c.M c.A (.compLoop (.ListComp elt [⟨t,iter,ifs,0⟩] sc pos) 0 (.ref p) xv c.env) Q s₅) E s₄) E s₃
     else Bl c.M c.A (.compLoop (.ListComp elt [⟨t,iter,ifs,0⟩] sc pos) 0 (.ref p) xv c.env) Q s₃) E s₂) E s₂) E hok fun h' tk u L' I' hl hat hg hk hI hc=>?_) (fun o s₁ h=>?_) fun zz zz h=>h
  ·have c1:=G.wJ L'
   have R2:=Rl.extJ hl H.bare hk hg hI
   refine Ie c1 T (ev (wJ c L') rfl rfl c1) t hc _ st _ _ X o _ E (.refl _) R2 P (fun k2 zz zz st2 h2 t2 l2 R3 zz P2=>?_) HE.err
   refine RB (c:=wJ c L') (tr (wJ c L') rfl rfl c1) ifs k2 st2 _ _ X o _ E (.refl _) R3 P2 (fun k3 ok ok' st3 h3 t3 l3 R4 hok' P3=>?_) HE.err
   cases (show ok=ok' from hok')
   have lk:BI k k3:=(BI.more I').trans (l2.trans l3)
   have hat3:=hat.mono lk
   rcases ok with _|_
   ·exact cm elt t iter ifs sc pos it (j+1) p i xv L' k3 st3 _ K X o Q hat3 hok (hx.mono lk) R4 P3 (HQ.ext lk) HE hz
   ·
    refine ev (wJ c L') rfl rfl c1 k3 elt k3 st3 _ _ X o _ E (.refl _) R4 P3 (fun k4 y yv st4 h4 t4 l4 R5 hy P4=>?_) HE.err
    refine RE (c:=wJ c L') (hx.mono (lk.trans l4)) (Ap.one hy) k4 st4 _ _ X o _ E (.refl _) R5 P4 (fun k5 zz zz st5 h5 t5 l5 R6 zz P5=>?_) HE.err
    have lk5:=lk.trans (l4.trans l5)
    exact cm elt t iter ifs sc pos it (j+1) p i xv L' k5 st5 _ K X o Q (hat3.mono (l4.trans l5)) hok (hx.mono lk5) R6 P5 (HQ.ext lk5) HE hz
  ·rcases o with _|v
   ·exact h.elim
   ·exact Br h (fun zz zz h=>h) fun zz zz h=>h
noncomputable def Dc (cells:List (Str×Addr)):List (Str×Aq)→List (Str×Addr)→List (Str×Addr)
 |[],acc=>acc
 |p::r,acc=>Dc cells r (if(p.2==Bu)=true then(p.1,(cells.lookup p.1).getD 0)::acc else acc)
theorem Oi {scope:Scope}{env:Env}(h:∀n,(n,Bu)∈scope.names→∃q,env.cells.lookup n=some q):closureFor scope env=pure (Dc env.cells scope.names []):=by
 have key:∀(names:List (Str×Aq)) (acc:List (Str×Addr)),(∀n,(n,Bu)∈names→∃q,env.cells.lookup n=some q)→
   (forIn (m:=Sem) names acc fun x r=>if(x.2==Bu)=true then do let a ←cellOf env x.1;pure (DP ((x.1,a)::r)) else pure (DP r))=pure (Dc env.cells names acc):=fun names=>by
  induction names with
  |nil=>exact fun acc zz=>rfl
  |cons p r ih=>
   intro acc h
   rw[D1]
   show _=pure (Dc env.cells r (if(p.2==Bu)=true then(p.1,(env.cells.lookup p.1).getD 0)::acc else acc))
   have ih:=fun acc=>ih acc fun n hn=>h n (.tail _ hn)
   by_cases hk:(p.2==Bu)=true
   ·rw[if_pos hk,if_pos hk]
    refine AA (h p.1 (by rw[←eq_of_beq hk];exact .head _)) fun q hq=>?_
    have e1:cellOf env p.1=pure q:=by unfold cellOf;rw[hq]
    rw[e1,hq,←ih]
    rfl
   ·rw[if_neg hk,if_neg hk,←ih]
    rfl
 have k:=key scope.names [] h
 unfold closureFor
 exact(congrArg (fun m:Sem (List (Str×Addr))=>m >>= fun cs=>pure cs) k).trans rfl
theorem UW {cells:List (Str×Addr)}{p:Str×Addr}(names:List (Str×Aq)):∀{acc:List (Str×Addr)},p∈Dc cells names acc→p∈acc∨((p.1,Bu)∈names∧p.2=(cells.lookup p.1).getD 0):=by
 induction names with
 |nil=>exact fun h=>.inl h
 |cons q r ih=>
  intro acc h
  refine(ih h).elim (fun h=>?_) fun h=>.inr ⟨.tail _ h.1,h.2⟩
  by_cases hk:(q.2==Bu)=true
  ·rw[if_pos hk] at h
   exact(AZ.mp h).elim (fun e=>.inr ⟨by rw[e,←eq_of_beq hk];exact .head _,by rw[e]⟩) .inl
  ·rw[if_neg hk] at h
   exact .inl h
theorem UY {cells:List (Str×Addr)}{p:Str×Addr}(names:List (Str×Aq)):∀{acc:List (Str×Addr)},p∈acc→p∈Dc cells names acc:=by
 induction names with
 |nil=>exact fun h=>h
 |cons q r ih=>exact fun h=>ih (by split<;>first|exact .tail _ h|exact h)
theorem UX {cells:List (Str×Addr)}{x:Str}(names:List (Str×Aq)):∀{acc:List (Str×Addr)},(x,Bu)∈names→(x,(cells.lookup x).getD 0)∈Dc cells names acc:=by
 induction names with
 |nil=>exact fun h=>(BH h).elim
 |cons q r ih=>
  intro acc h
  exact(AZ.mp h).elim (fun e=>by rw[←e];exact UY r (.head _)) fun h=>ih h
theorem Ot {β:Type}{x:Str}{q:β}{l:List (Str×β)}:(x,q)∈l→(∀q',(x,q')∈l→q'=q)→l.lookup x=some q:=by
 induction l with
 |nil=>exact fun h=>nomatch h
 |cons p l ih=>
  intro h u
  rw[Bc]
  by_cases e:x=p.1
  ·rw[beq_iff_eq.mpr e,u p.2 (by rw[e];exact .head _)]
  ·rw[beq_eq_false_iff_ne.mpr e]
   exact(AZ.mp h).elim (fun h=>absurd (congrArg (·.1) h) e) fun h=>ih h fun q' hq=>u q' (.tail _ hq)
theorem Sd {cells:List (Str×Addr)}{names:List (Str×Aq)}{x:Str}{q:Addr}(hm:(x,Bu)∈names)(hq:cells.lookup x=some q):(Dc cells names []).lookup x=some q:=by
 refine Ot (by have:=UX (cells:=cells) names (acc:=[]) hm;rw[hq] at this;exact this) fun q' h=>(UW names h).elim (fun h=>nomatch h) fun h=>?_
 exact h.2.trans (by rw[hq];rfl)
structure Lo (c:Cx)(sc:Scope):Prop where
 kind:sc.kind= .function
 names:(sc.names.map (·.1)).Nodup
 dbg:("__debug__":Str)∉sc.names.map (·.1)
 cell:∀x∈sc.names,x.2≠ .cell
 free:∀n,(n,Bu)∈sc.names→c.env.kindOf n=some .cell∧∃q,c.env.cells.lookup n=some q
noncomputable abbrev IC (c:Cx)(sc:Scope)(C:Addr)(g:Heap):Cx:=⟨⟨c.tp,compEnvC sc (Dc c.env.cells sc.names []) C c.env,g,c.J⟩,c.A,c.outer,c.lv⟩
section
variable {c:Cx}{k:Kn}{sc:Scope}
theorem UP {st:St}{h:Heap}(R:Al c.fm k st h)(e:Of sc st.loc=true):Lo c sc:=by
 have e1:=AP.mp e
 have e2:=AP.mp e1.1
 have e3:=AP.mp e2.1
 have ek:=B1.mp e1.2
 refine⟨?_,of_decide_eq_true e3.2,fun h=>?_,fun x hx hk=>?_,fun n hn=>?_⟩
 ·have z:=e3.1
  revert z
  rcases sc.kind with _|_<;>first|exact fun zz=>rfl|exact fun z=>(AS z).elim
 ·have z:=e2.2
  rw[Ds.mpr h] at z
  exact AS z
 ·have z:=ek x hx
  unfold aH at z
  rw[hk] at z
  exact AS z
 ·have z:((Co n st.loc).bind Lf).isSome=true:=ek _ hn
  refine AA (Bw.mp z) fun i z=>AR (Af.mp z) fun a hl ha=>?_
  refine(R.loc n a hl).2.elim (fun y=>absurd (y.2.1.symm.trans ha) (fun y=>nomatch y)) fun y=>y.elim (fun y=>?_) fun y=>⟨y.1,y.2.elim fun j y=>y.elim fun q y=>y.elim fun zz y=>⟨q,y.2.1⟩⟩
  rcases a with _|_<;>first|exact AU ha|exact(AS y.2.2).elim
theorem Ih (G:Good c)(S:Lo c sc){C:Addr}{x:Str}{q:Aq}(hm:(x,q)∈sc.names):(compEnvC sc (Dc c.env.cells sc.names []) C c.env).kindOf x=some (if q= .free then .cell else q):=by
 show(relabel sc c.env).names.lookup x=_
 unfold relabel
 refine lookup_nodup ?_ ?_
 ·have:(sc.names.map fun(n,k)=>if(k==Bu&&c.env.scope.kind==ScopeKind.function&&c.env.kindOf n==some D9) then(n,D9) else(n,k)).map (·.1)=sc.names.map (·.1):=by
   rw[DN]
   refine EL fun p hp=>?_
   show(if _ then(p.1,D9) else(p.1,p.2)).1=p.1
   split<;>rfl
  rw[this];exact S.names
 ·refine Bq.mpr ⟨(x,q),hm,?_⟩
  by_cases hk:q= .free
  ·subst hk
   simp only[(S.free x hm).1,G.kind,if_true]
   rfl
  ·have e1:(q==Bu)=false:=beq_eq_false_iff_ne.mpr hk
   simp only[e1,Bool.false_and,Cm,if_false,if_neg hk]
theorem Og {g:Str→Option V}{loc:List (Str×V)}{x:Str}{a:V}{names:List (Str×Aq)}:Co x (Cg g loc names)=some a→
  ((x,Aq.local)∈names∧a= .undef)∨((x,Bu)∈names∧Co x loc=some a)∨((x,EN)∈names∧g x=some a):=by
 induction names with
 |nil=>exact fun h=>AU h
 |cons p r ih=>
  intro h
  have look:∀{u:V},Co x ((p.1,u)::Cg g loc r)=some a→(x=p.1∧u=a)∨Co x (Cg g loc r)=some a:=fun{u} h=>by
   rw[GC] at h
   by_cases e:x=p.1
   ·rw[if_pos e] at h;exact .inl ⟨e,AG h⟩
   ·rw[if_neg e] at h;exact .inr h
  have go:=fun h=>(ih h).imp (fun z=>(⟨.tail _ z.1,z.2⟩:(x,Aq.local)∈p::r∧_)) fun z=>z.imp (fun z=>(⟨.tail _ z.1,z.2⟩:(x,Bu)∈p::r∧_)) fun z=>(⟨.tail _ z.1,z.2⟩:(x,EN)∈p::r∧_)
  rcases p with⟨y,q⟩
  ·
   cases q with
   |«local»=>exact(look h).elim (fun z=>.inl ⟨by rw[z.1];exact .head _,z.2.symm⟩) go
   |free=>
    have h:Co x (match Co y loc with|some v=>(y,v)::Cg g loc r|none=>Cg g loc r)=some a:=h
    rcases e:Co y loc with _|v
    ·rw[e] at h;exact go h
    ·rw[e] at h;exact(look h).elim (fun z=>.inr (.inl ⟨by rw[z.1];exact .head _,by rw[z.1,e,z.2]⟩)) go
   |globalImplicit=>
    have h:Co x (match g y with|some v=>(y,v)::Cg g loc r|none=>Cg g loc r)=some a:=h
    rcases e:g y with _|v
    ·rw[e] at h;exact go h
    ·rw[e] at h;exact(look h).elim (fun z=>.inr (.inr ⟨by rw[z.1];exact .head _,by rw[z.1,e,z.2]⟩)) go
   |_=>exact go h
theorem Al.compLoc (G:Good c)(S:Lo c sc){st:St}{h:Heap}(R:Al c.fm k st h){C:Addr}{g:Heap}{m':Str→Option Value}:J0 (IC c sc C g).fm k m' (Cg c.S.glob st.loc sc.names):=fun x a hx=>by
 have dbg:∀{q},(x,q)∈sc.names→(x==("__debug__":Str))=false:=fun hm=>beq_eq_false_iff_ne.mpr fun e=>S.dbg (e▸BO (f:=(·.1)) hm)
 refine(Og hx).elim (fun z=>⟨dbg z.1,.inl ⟨Ih G S z.1,by rw[z.2];exact⟨rfl,.inl rfl⟩⟩⟩) fun z=>z.elim (fun z=>⟨dbg z.1,?_⟩) fun z=>⟨dbg z.1,.inr (.inl ⟨Ih G S z.1,z.2,G.top.globSt _ _ z.2⟩)⟩
 have hc:=(S.free x z.1).1
 refine(R.loc x a z.2).2.elim (fun y=>absurd (AG (hc.symm.trans y.1)) (fun y=>nomatch y)) fun y=>y.elim (fun y=>absurd (AG (hc.symm.trans y.1)) (fun y=>nomatch y)) fun y=>.inr (.inr ⟨Ih G S z.1,y.2.elim fun i y=>y.elim fun q y=>y.elim fun w y=>⟨i,q,w,y.1,Sd z.1 y.2.1,y.2.2⟩⟩)
theorem S8 (G:Good c)(S:Lo c sc){C:Addr}{g:Heap}(B:Below c.A c.base c.outer g):Good (IC c sc C g):=by
 refine⟨G.top,S.kind,G.gl,G.bi,G.frames,B.stays,fun h m nw F N=>?_⟩
 refine funFrames_hideAll (B.frames.of_keeps fun b o e zz=>⟨o,F.keep b o e,rfl⟩) fun env he a ha hf=>?_
 refine Dm (funFrames_in B.frames env he) fun L₁ o₁ hf₁ ho₁=>AR (Bq.mp ha) fun p hp e=>?_
 have h1:g.get? p.1=none:=(N p hp).2.2
 have h2:L₁=p.1:=(AG (hf₁.symm.trans hf)).trans e.symm
 rw[h2] at ho₁
 exact AU (h1.symm.trans ho₁)
end
section
variable {c:Cx}{k:Kn}
theorem WQ (hh:c.A.handled=none){it:It}{j:Nat}{p:Addr}{L:Ba}{s:Shared}(H:Fe c k it j p L)(hnd:Hj it=true)(B:∀q∈L,s.heap.get? q.1=some q.2){Q:Value→Shared→Prop}{E:Value→Shared→Prop}(h:Q (.ref p) s):
  wpAny c.M c.A (pyIter (.ref p)) Q E s:=by
 refine AA H fun a H=>AA H fun o H=>H.2.elim (fun z=>?_) fun z=>z.2.2.elim fun old e=>?_
 ·have ho:s.heap.get? a=some o:=B (a,o) (by rw[z.2.2];exact .head _)
  rw[z.2.1]
  rw[z.2.1] at h
  have H:=H.1
  cases it with
  |list i en=>exact AA H fun d H=>wpAny_pyIter_listiter ⟨o,ho,H.2.1,H.2.2⟩ h
  |str x en=>
   refine AA H fun n H=>AA H fun t H=>?_
   have st:s.heap.IsStrIter a n x t j:=⟨o,ho,H.2.1,H.2.2.1⟩
   exact H.1.elim (fun e=>by subst e;exact(Walks.strAscii (prog:=c.prog) (w:=c.w) hh a x t).self j s Q E st h) fun e=>by subst e;exact(Walks.strWide (prog:=c.prog) (w:=c.w) hh a x t).self j s Q E st h
  |rng x y=>exact(Walks.range (prog:=c.prog) (w:=c.w) hh a x 1 _).self j s Q E (ho.trans (congrArg some H.1)) h
  |dict i=>exact(AS hnd).elim
 ·have hen:IsEnum s.heap p a j old:=B _ (by rw[e];exact .head _)
  exact wpAny_pyIter_enum hen h
theorem YY (d:Nat):ID d≤d:=by
 unfold ID
 rcases h:C1 d Gp with _|_
 ·exact Ak _
 ·rw[Dq h];decide
theorem YX {d:Nat}(h:nz d=true):nz (ID d)=true:=by
 unfold ID
 rcases C1 d Gp with _|_
 ·exact h
 ·rfl
theorem BS.comp {d:Nat}(G:BS c d){sc:Scope}{C:Addr}{g:Heap}(hz:nz d=true)(H:Good (IC c sc C g)):BS (IC c sc C g) (ID d):=by
 have h1:=G.2
 have h2:=G.3
 have h3:=YY d
 refine⟨H,by show c.A.units+8 * ID d+20≤cLine;lia,by show c.A.depth+2 * ID d≤900;lia,fun zz=>G.4 hz,.inl ?_⟩
 unfold ID
 refine G.5.elim (fun z=>?_) fun z=>by rw[z.1];decide
 rw[show C1 d Gp=false from Bool.eq_false_iff.mpr fun e=>absurd (Dq e) (As z)]
 exact z
noncomputable def Al.outC {st:St}{h h':Heap}{C:Addr}(R:Al c.fm k st h)(LT:c.env.locals<C)(ne:∀q∈R.MO++(c.J++k.I),q.1≠C)(hs:Bd C h h'):Al c.fm k st h':=
 ⟨R.m,R.MO,⟨R.F.ns.sameBut hs (As LT),fun b o e=>(hs.2 b (As (Am (B4 e) (AM R.F.above (BU LT))))).trans (R.F.keep b o e),R.F.above⟩,
  fun q hq=>⟨(hs.2 q.1 (ne q hq)).trans (R.N q hq).1,(R.N q hq).2⟩,R.nd,R.loc,R.heap⟩
noncomputable def Al.stored {st:St}{h h':Heap}{x:Str}{u a:V}{v:Value}(R:Al c.fm k st h)(hl:c.env.kindOf x=some .local)(e:Co x st.loc=some u)(hv:Ag c.tp k a v)(hn:h'.Ns c.env.locals fun y=>if y=x then some v else R.m y)(hsb:Bd c.env.locals h h'):Al c.fm k ⟨Kp x a st.loc,st.heap⟩ h':=by
 refine⟨_,R.MO,R.F.set hn hsb,R.N.set hsb,R.nd,fun y b hb=>?_,R.heap⟩
 have hb:Co y (Kp x a st.loc)=some b:=hb
 rw[PS] at hb
 by_cases q:y=x
 ·rw[if_pos q,e] at hb
  exact⟨q▸(R.loc x u e).1,.inl ⟨q▸hl,E1 hb fun z=>z▸Iv hv,.inr ⟨v,if_pos q,E1 hb fun z=>z▸hv⟩⟩⟩
 ·rw[if_neg q] at hb
  exact⟨(R.loc y b hb).1,(R.loc y b hb).2.imp (fun z=>⟨z.1,z.2.1,z.2.2.imp id (Ae fun w z=>⟨(if_neg q).trans z.1,z.2⟩)⟩) id⟩
noncomputable def Pp (c:Cx)(k:Kn)(st:St)(s:Shared)(o:Except V V×List O)(K:V→St→Ay)(i:Nat)(post:Shared→Prop):Prop:=
 ∀k4 hp h4 tk,BI k k4→(R:Al c.fm k4 ⟨st.loc,hp⟩ h4)→(∃m,h4.Ns s.heap.objs.size m)→(∀q∈R.MO++(c.J++k4.I),q.1≠s.heap.objs.size)→Y c.l o (K (.obj i) ⟨st.loc,hp⟩)→post {s with heap:=h4,toks:=tk}
section
variable {r:GT}{d:Nat}(hz:nz d=true)(G:BS c d)(ev:∀k e,AY c k (CV c) (eval e c.env) (r.ev d e))(cm:∀c' d',c'.tp=c.tp→c'.lv=c.lv→BS c' d'→Ql c' d')
include hz G cm in
theorem Wj {elt t iter:Expr}{ifs:List Expr}{sc:Scope}{pos:Pos}{it:It}{i:Nat}{p:Addr}{L:Ba}{st:St}{s:Shared}{xv:Value}{K:V→St→Ay}{X:V→St→Ay}{o:Except V V×List O}{Q:Value→Shared→Prop}{E:Value→Shared→Prop}(S:Lo c sc)(H:Fe c k it 0 p L)(hnd:Hj it=true)(hok:Fj it t=true)(hx:Ag c.tp k (.obj i) xv)
  (R:Al (wJ c L).fm k st s.heap)(P:Y c.l o (((LY c.S sc (Kf (ID d) elt t ifs it 0 i)).bind fun zz=>.pure (.obj i)) st K X)){use:Option (Value→Sem Unit)}(fin:Pp c k st s o K i (compPost c.M c.A E use Q xv s.heap.objs.size (.ok .next))):
  wpAny c.M c.A (newFunctionEnv sc c.env.globals (Dc c.env.cells sc.names []) [] c.env.qual none .none (some c.env)) (fun cenv s₄=>
   Bl c.M c.A (.compStart (.ListComp elt [⟨t,iter,ifs,0⟩] sc pos) 0 (.ref p) xv {cenv with scope:=relabel sc c.env}) (compPost c.M c.A E use Q xv cenv.locals) s₄) E s:=by
 refine wpAny_newFunctionEnv S.cell (fun zz h=>(BH h).elim) (fun h₃ hns hsb=>?_) S.kind
 have LT:=R.F.ns.lt
 have gr:=fun Gl:Prop=>OM (A:=c.A) (s:=s) (R:=fun zz zz=>Gl) G.1.stays R.F R.N G.1.frames (G.1.ff _ _ _ R.F R.N)
 have BG:=(gr True).2.1
 generalize hg:hideAll s.heap ((R.MO++((wJ c L).J++k.I)).map (·.1))=g at gr BG
 have old:∀b o,s.heap.get? b=some o→h₃.get? b=some o:=fun b o e=>hsb.extBut b o (As (B4 e)) (BN _ e)
 have G₂:BS (IC c sc s.heap.objs.size g) (ID d):=G.comp hz (S8 G.1 S BG)
 have R5:Al (wJ (IC c sc s.heap.objs.size g) L).fm k ⟨Cg c.S.glob st.loc sc.names,st.heap⟩ h₃:=by
  refine⟨_,R.MO,⟨hns,fun b o e=>old b o (of_hideAll _ (hg▸e)),Bp (by rw[←hg];exact hideAll_size _ _)⟩,fun p hp=>?_,R.nd,Al.compLoc (c:=wJ c L) (G.1.wJ L) ⟨S.kind,S.names,S.dbg,S.cell,S.free⟩ R,R.heap⟩
  exact⟨old _ _ (R.N p hp).1,As (B4 (R.N p hp).1),by rw[←hg];exact hideAll_none _ (BO hp)⟩
 refine JY P fun hco P=>?_
 have loop:Bl c.M c.A (.compLoop (.ListComp elt [⟨t,iter,ifs,0⟩] sc pos) 0 (.ref p) xv (compEnvC sc (Dc c.env.cells sc.names []) s.heap.objs.size c.env)) (compPost c.M c.A E use Q xv s.heap.objs.size) {s with heap:=h₃,toks:=s.toks+0}:=by
  refine cm (IC c sc s.heap.objs.size g) (ID d) rfl rfl G₂ elt t iter ifs sc pos it 0 p i xv L k ⟨Cg c.S.glob st.loc sc.names,st.heap⟩ _ _ _ o _ H hok hx R5 P (fun k4 zz zz st4 h4 t4 l4 R4 zz P4=>?_) ER.no (YX hz)
  refine(gr _).2.2.2 .none {s with heap:=h4} (leaveK_ R4.F R4.N fun F' N'=>?_)
  exact fin k4 st4.heap h4 t4 l4 ⟨R.m,R4.MO,F',N',R4.nd,R.loc.mono l4,R4.heap⟩ ⟨R4.m,R4.F.ns⟩ (fun q hq=>(R4.N q hq).2.1) P4
 exact codeAny_compStart_list loop (WQ (c:=IC c sc s.heap.objs.size g) (G.4 hz) H hnd (fun q hq=>(R5.inJ hq).1) loop)
omit hz in
include G ev cm in
theorem Pf (hz:nz d=true){elt t iter:Expr}{ifs:List Expr}{sc:Scope}{pos pos':Pos}{use:Option (Value→Sem Unit)}{k₁:Kn}{st:St}{s:Shared}{K:V→St→Ay}{X:V→St→Ay}{o:Except V V×List O}{Q:Value→Shared→Prop}{E:Value→Shared→Prop}(R:Al c.fm k₁ st s.heap)
  (P:Y c.l o (((Td sc).bind fun zz=>(K4 r d iter).bind fun it=>chk (Hj it&&Fj it t) ((GK (.list [])).bind fun v=>(B2 (GS v)).bind fun i=>(LY c.S sc (Kf (ID d) elt t ifs it 0 i)).bind fun zz=>.pure v)) st K X))(HE:Fy c k₁ s X o E)
  (fin:∀k2 st2 h2 t2 i acc,BI k₁ k2→Ag c.tp k2 (.obj i) acc→c.env.locals<h2.objs.size→Pp c k2 st2 {s with heap:=h2,toks:=t2} o K i (compPost c.M c.A E use Q acc h2.objs.size (.ok .next))):
  wpAny c.M c.A (comprehension (.ListComp elt [⟨t,iter,ifs,0⟩] sc pos) sc c.env pos' (newList []) false (eval iter c.env) use) Q E s:=by
 refine JY P fun hco P=>?_
 have S:=UP R hco
 have z:=Mh (E:=E) (Q:=fun it s₂=>wpAny c.M c.A (newList []) (fun acc s₃=>
   wpAny c.M c.A (newFunctionEnv sc c.env.globals (Dc c.env.cells sc.names []) [] c.env.qual none .none (some c.env)) (fun cenv s₄=>
    Bl c.M c.A (.compStart (.ListComp elt [⟨t,iter,ifs,0⟩] sc pos) 0 it acc {cenv with scope:=relabel sc c.env}) (compPost c.M c.A E use Q acc cenv.locals) s₄) E s₃) E s₂) G ev R P HE ?_
 ·exact wpAny_comprehension_free (use:=use) rfl z.1 (Oi fun n hn=>(S.free n hn).2) S.kind (fun x hx hl=>lookup_nodup S.names (by rw[←hl];exact hx)) z.2
 intro k1 it st1 v h1 t1 l1 P1 hb
 refine GF P1 fun hc P1=>?_
 have hc:=AP.mp hc
 refine AA hb fun Jd hb=>AA hb fun p hb=>AA hb fun L hb=>?_
 have hJ:Jd=[]:=hb.2.2.2.elim (fun z=>z.2) fun z=>AA z fun i z=>AA z fun dd z=>AA z fun ob z=>by
  rw[z.1] at hc
  exact(AS hc.1).elim
 subst hJ
 rw[hb.1]
 refine hb.2.2.1.elim fun R1=>?_
 refine KJ (c:=wJ c L) (k:=k1) (xs:=[]) (vs:=[]) rfl (BX _) k1 st1 {s with heap:=h1,toks:=t1} _ X o _ E (.refl _) R1 P1 (fun k2 a acc st2 h2 t2 l2 R2 hacc P2=>?_) ((HE.dropJ (hb.2.1:Fe c k1 it 0 p L).bare).ext l1)
 refine Bh P2 fun i hi P2=>?_
 rcases a with _|_
 case obj j=>
  cases AG hi
  exact Wj hz G cm (s:={s with heap:=h2,toks:=t2}) S (Fe.mono l2 (hb.2.1:Fe c k1 it 0 p L)) hc.1 hc.2 hacc R2 P2 (fin k2 st2 h2 t2 _ acc (l1.trans l2) hacc R2.F.ns.lt)
 all_goals exact AU hi
omit hz in
include G ev cm in
theorem TS {elt t iter:Expr}{ifs:List Expr}{sc:Scope}{pos:Pos}:AY c k (CV c) (eval (.ListComp elt [⟨t,iter,ifs,0⟩] sc pos) c.env) (NW c.S r d elt t iter ifs sc):=by
 refine .chk fun hz=>?_
 intro k₁ st s K X o Q E l R P HQ HE
 rw[eval_ListComp]
 exact Pf G ev cm hz R P HE fun k2 st2 h2 t2 i acc l2 hacc LT k4 hp h4 tk l4 R4 hm ne P4=>hm.elim fun m hm=>⟨m,hm,fun h'' hs=>HQ k4 (.obj i) acc ⟨st2.loc,hp⟩ h'' tk (l2.trans l4) (R4.outC LT ne hs) (hacc.mono l4) P4⟩
omit hz in
include G ev cm in
theorem RH {elt t iter:Expr}{ifs:List Expr}{sc:Scope}{pos xp:Pos}{x:Str}(hl:c.env.kindOf x=some .local):AY c k CU (evalThenUse (.ListComp elt [⟨t,iter,ifs,0⟩] sc pos) c.env (assign (.Name x xp) c.env)) ((NW c.S r d elt t iter ifs sc).bind fun v=>FB x v):=by
 intro k₁ st s K X o Q E l R P HQ HE
 refine GF (m:=(Td sc).bind fun zz=>(K4 r d iter).bind fun it=>chk (Hj it&&Fj it t) ((GK (.list [])).bind fun v=>(B2 (GS v)).bind fun i=>(LY c.S sc (Kf (ID d) elt t ifs it 0 i)).bind fun zz=>.pure v)) (K:=fun v s=>FB x v s K X) P fun hz P=>?_
 rw[arm_evalThenUse_ListComp]
 refine AD (Pf G ev cm hz R P HE fun k2 st2 h2 t2 i acc l2 hacc LT k4 hp h4 tk l4 R4 hm ne P4=>hm.elim fun m hm=>?_)
 refine AD (Bz (wpAny_bindName ?_))
 refine Bh P4 fun u eu P4=>?_
 rcases hs:GX u (.obj i) with _|_
 ·
  rw[hs] at P4
  refine Bh P4 fun q hq zz=>?_
  refine(R4.loc x u eu).2.elim (fun z=>AU (z.2.1.symm.trans hq)) fun z=>z.elim (fun z=>absurd (AG (hl.symm.trans z.1)) fun y=>nomatch y) fun z=>absurd (AG (hl.symm.trans z.1)) fun y=>nomatch y
 ·
  rw[hs] at P4
  refine wpAny_storeName_local hl R4.F.ns (fun h5 hn hsb=>?_) (by show(c.env.scope.kind== .class||(c.env.scope.kind== .module&&c.env.locals != c.env.globals))=false;rw[G.1.kind];rfl)
  refine⟨m,hm.sameBut hsb (CT LT),fun h' hs'=>AJ ?_⟩
  exact HQ k4 () () ⟨Kp x (.obj i) st2.loc,hp⟩ h' _ (l2.trans l4) ((R4.stored hl eu (hacc.mono l4) hn hsb).outC LT ne hs') trivial P4
end
end
structure Om extends Vh where
 cda:Addr
 cc:Addr
 ps:Str
 px:Str
 ar:Arg
 rest:List Stmt
 p0:Pos
 p1:Pos
 p2:Pos
 p3:Pos
 p4:Pos
 p5:Pos
 ccl:Value
 cdd:Option Addr
 vs:Array Value
 ccs:Array (Option Value)
 file:Str
 tf:Tok
 cl:Value
 cld:Option Addr
 csl:Array (Option Value)
 D:Addr
 cdD:ClassData
noncomputable def Om.fd (q:Om)(fn:Fn):FuncData:=ksFn q.name q.qual q.params fn.body fn.scope q.dV q.kV q.doc q.pm q.an (.ref q.cda) q.ct q.cc
structure Qf (θ:Tp)(f:Nat)(fn:Fn)(g k:Nat)(q:Om):Prop where
 look:θ.K.lookup (θ.af f)=some ⟨q.oc,q.od,.func (q.fd fn),q.osl⟩
 code:codeIn θ.K (.ref q.cda) q.qual=true
 po:q.params.posonlyargs=[]
 as:q.params.args.map (·.arg)=fn.params
 ko:q.params.kwonlyargs=[]
 va:q.params.vararg=none
 ka:q.params.kwarg=none
 dV:q.dV= .none
 ps:fn.params=[q.ps,q.px]
 ar:q.params.args.head? =some q.ar
 arg:q.ar.arg=q.ps
 body:fn.body= .Expr (.Call (.Attribute (.Call (.Name "super" q.p0) [] [] q.p1) "__init__" q.p2) [.Name q.px q.p3] [] q.p4) q.p5::q.rest
 pos:q.p2.endLine=q.p4.line
 cda:θ.K.lookup q.cda=some ⟨q.ccl,q.cdd,.fields q.vs,q.ccs⟩
 vs:q.vs[2]? =some (.str q.file q.tf)
 file:((θ.prog.main.file:Str)==q.file)=true
 cc:θ.K.lookup q.cc=some ⟨q.cl,q.cld,.cell (some (.ref q.D)),q.csl⟩
 D:clsIn θ.K q.D=some q.cdD
 mro:mroIn θ.K (θ.ac k) (.ref q.D)=some true
 sup:ks_superIn θ.K (θ.ac k) q.D "__init__"=some (some (.ref (θ.af g)))
 kps:fn.scope.names.lookup q.ps=some .local
 dflts:fn.dflts=[]
 nodup:fn.params.Nodup
 names:(fn.scope.names.map (·.1)).Nodup
 kinds:∀p∈fn.params,(p,Aq.local)∈fn.scope.names
 nocell:∀x∈fn.scope.names,x.2≠ .cell
 dbg:("__debug__":Str)∉fn.scope.names.map (·.1)
 ksup:fn.scope.names.lookup ("super":Str)=some .globalImplicit
 kcls:fn.scope.names.lookup ("__class__":Str)=some .free
 co:fn.scope.isCoroutine=false
 gen:fn.scope.isGenerator=false
 kind:fn.scope.kind= .function
 top:(θ.prog.main.scope.names.lookup ("super":Str)).isSome=false
 boot:bootBuiltins "super"=some (.type "super")
 nosup:nsIn θ.K Cn "super"=some none
 third:nsIn θ.K cStatics "thirdparty.any"=some none
 ty:typeIn θ.K (.ref (θ.af g))=some (.type "function")
 fng:fnIn θ.K (θ.af g)=true
theorem Zp {prog:C0}{w:World}{A:Around}{s:Shared}{base h₀:Heap}{fl:List Env}{L:Addr}{m:Str→Option Value}{news:Ba}{R:Result→Shared→Prop}{name qual:Str}{params:Arguments}{body:List Stmt}{scope:Scope}{dV kV doc pm cdv ct:Value}{an:Option Addr}{fo:Obj}{f cc:Addr}{args:Args}{binds:List (Str×Value)}
  (hs:base.StaysIn h₀)(F:Fr h₀ L s.heap m)(N:News h₀ L s.heap news)(hlim:h₀.NoLimit)(hA:A.frames=some fl)(ff:(hideAll s.heap (news.map (·.1))).FunFrames base fl)
  (ho:s.heap.get? f=some fo)(hd:fo.data= .func (ksFn name qual params body scope dV kV doc pm an cdv ct cc))(hcd:s.heap.CodeRec cdv qual)(hroom:A.depth<Fi)
  (hbind:BindsTo s (ksFn name qual params body scope dV kV doc pm an cdv ct cc) args binds)(hcell:∀x∈scope.names,x.2≠ .cell)(hloc:∀x∈binds,scope.names.lookup x.1=some .local)
  (h:∀g L' h₁ tk,Fr h₀ L g m→Fr g L' h₁ (fun y=>binds.reverse.lookup y)→News g L' h₁ news→Below A base fl g→h₀.StaysIn g→(∀p∈news,p.1<L')→
   ∀E,_root_.PySem.wpAt (model prog w) (A.deeper (ksEnv qual scope L' f cdv cc)) (.func body (ksEnv qual scope L' f cdv cc)) (execs body (ksEnv qual scope L' f cdv cc))
    (fun fl s'=>LeaveK h₀ L m g R (match fl with| .ret v=>v|_=>.none) s') E {s with heap:=h₁,toks:=tk})
  (hco:scope.isCoroutine=false)(hgen:scope.isGenerator=false)(hk:scope.kind= .function):Bl (model prog w) A (.call (.ref f) args) R s:=by
 obtain⟨FG,BG,st,lv⟩:=OM (R:=R) hs F N hA ff
 refine ks_codeAny_call_defAt (fd:=ksFn name qual params body scope dV kV doc pm an cdv ct cc) (body:=body) (binds:=binds) hroom ho hd (hlim.keeps F.keep) hcd rfl hbind hcell hloc (fun h₁ hns hk₁=>?_) hco hgen hk
 exact ks_wpAt_mono (h _ s.heap.objs.size h₁ _ FG ⟨hns,fun b o e=>hk₁ b o (of_hideAll _ e),Bp (hideAll_size _ _)⟩
  (fun p hp=>⟨hk₁ _ _ (N p hp).1,As (B4 (N p hp).1),hideAll_none _ (BO hp)⟩) BG st (fun p hp=>B4 (N p hp).1) _) (fun fl s' hl=>lv _ _ hl) fun zz zz y=>y
theorem QI {β:Type}{x:Str}{l:List (Str×β)}(h:(l.map (·.1)).Nodup):l.reverse.lookup x=l.lookup x:=by
 have h2:(l.reverse.map (·.1)).Nodup:=by rw[List.map_reverse];exact(List.reverse_perm _).nodup_iff.mpr h
 rcases e:l.lookup x with _|v
 ·exact II fun z=>AR (Bq.mp z) fun p hp e'=>AU (e.symm.trans (lookup_nodup (b:=p.2) h (by rw[←e'];exact List.mem_reverse.mp hp)))
 ·exact lookup_nodup h2 (List.mem_reverse.mpr (mem_of_lookup e))
theorem Mz {θ:Tp}(T:Top θ){env:Env}{h₀:Heap}{J:Ba}{k:Kn}{bx:List (Str×V)}{bv:List (Str×Value)}(hb:CL θ k bx bv)(hbn:(bv.map (·.1)).Nodup)
  (hn:(env.scope.names.map (·.1)).Nodup)(hd:("__debug__":Str)∉env.scope.names.map (·.1))(hc:∀x∈env.scope.names,x.2≠ .cell){os:List O}{M:Ba}(H:Cs θ J k os k.D M):J0 ⟨θ,env,h₀,J⟩ k (fun y=>bv.reverse.lookup y) (entry θ.S env.scope bx os).loc∧Cs θ J k (entry θ.S env.scope bx os).heap k.D M:=by
 have nc:∀{x},(x,D9)∈env.scope.names→False:=fun h=>hc _ h rfl
 have stay:∀(names:List (Str×Aq)) (os:List O),(∀x∈names,x.2≠ .cell)→(EE θ.S.glob bx names os).2=os:=fun names=>by
  induction names with
  |nil=>exact fun zz zz=>rfl
  |cons p r ih=>
   intro os hc
   have ih:=ih os fun x hx=>hc x (.tail _ hx)
   rcases p with⟨y,q⟩
   ·
    rcases q with _|_
    case cell=>exact absurd rfl (hc _ (.head _))
    all_goals exact ih
 refine⟨?_,by rw[show(entry θ.S env.scope bx os).heap=os from stay _ _ hc];exact H⟩
 refine AA (OV (θ:=θ) (J:=J) (g:=θ.S.glob) (bx:=bx) (bv:=bv) (cm:=fun x=>bv.lookup x) (cells:=[]) (fun x u v zz h=>h) (names:=env.scope.names) 0 [] os k.D H.length fun x a hx=>(nc hx).elim) fun Dn e=>AA e fun Mn e=>fun x a hx=>?_
 have kind:=fun{z:Aq} (hm:(x,z)∈env.scope.names)=>(lookup_nodup hn hm:env.kindOf x=some z)
 have db:∀z,(x,z)∈env.scope.names→(x==("__debug__":Str))=false:=fun z hm=>beq_eq_false_iff_ne.mpr fun e=>hd (e▸BO (f:=(·.1)) hm)
 refine(e.5 x a hx).elim (fun z=>⟨db _ z.1,.inl ⟨kind z.1,?_⟩⟩) fun z=>z.elim (fun z=>⟨db _ z.1,.inr (.inl ⟨kind z.1,z.2,T.globSt x a z.2⟩)⟩) fun z=>(nc z.1).elim
 rw[z.2,Il]
 exact(hb.look x).elim (fun y=>by rw[y.1];exact⟨rfl,.inl rfl⟩) fun y=>BJ y fun u v h1 h2 h3=>by rw[h1];exact⟨Iv h3,.inr ⟨v,(QI hbn).trans h2,h3⟩⟩
section
variable {c:Cx}{k:Kn}{r:GT}{d:Nat}
theorem R0 {f g j:Nat}{fn:Fn}{q:Om}(K:Qf c.tp f fn g j q)(G:Good c){L:Addr}(henv:c.env=ksEnv q.qual fn.scope L (c.af f) (.ref q.cda) q.cc)(IHc:∀k xs vs,Ap c.tp k xs vs→Eo c k (.call (.ref (c.af g)) ⟨vs,[]⟩) (F0 d g xs []))
  (IHx:∀k,AY c k (CF c.tp) (execs (fn.body.drop 1) c.env) (Cy r d (fn.body.drop 1)))
  {st:St}{s:Shared}{K':Fl→St→Ay}{X:V→St→Ay}{o:Except V V×List O}{Q:Flow→Shared→Prop}{E:Value→Shared→Prop}(R:Al c.fm k st s.heap)(P:Y c.l o (T8 r d g j fn st K' X))(HQ:FV c (CF c.tp) k s K' o Q)(HE:ER c X o):
  _root_.PySem.wpAt c.M c.A (.func fn.body (ksEnv q.qual fn.scope L (c.af f) (.ref q.cda) q.cc)) (execs fn.body (ksEnv q.qual fn.scope L (c.af f) (.ref q.cda) q.cc)) Q E s:=by
 have hL:c.env.locals=L:=by rw[henv]
 subst hL
 rw[←henv]
 refine G.top.TT.elim fun mean TT=>?_
 have TT:=TT.keeps G.stays
 have P:Y c.l o ((match fn.params with
  |[ps,px]=>(E3 ps).bind fun a=>(B2 (GS a)).bind fun i=>(rd oI i).bind fun p=>chk (decide (p.1=j)) ((E3 px).bind fun b=>(LB (F0 d g [.obj i,b] [])).bind fun zz=>Cy r d (fn.body.drop 1))
  |_=>stuck) st K' X):=P
 rw[K.ps] at P
 have hkps:c.env.kindOf q.ps=some .local:=by rw[henv];exact K.kps
 refine Bh P fun a ea P=>?_
 refine(R.loc q.ps a ea).2.elim (fun h=>?_) fun h=>h.elim (fun h=>absurd (AG (hkps.symm.trans h.1)) fun z=>nomatch z) fun h=>absurd (AG (hkps.symm.trans h.1)) fun z=>nomatch z
 rw[h.2.1] at P
 refine Bh P fun b eb P=>LV eb fun hu e=>?_
 subst e
 refine h.2.2.elim (fun z=>(hu z).elim) fun h=>AR h fun v hv hc=>?_
 refine Bh P fun i ei P=>Fo ei fun e=>?_
 subst e
 refine JH P fun ob p e1 e2 P=>?_
 refine GF P fun hj P5=>?_
 have hj:p.1=j:=of_decide_eq_true hj
 subst hj
 refine JJ R e1 e2 hc fun dd oo1 dxx es n p1 p2 T hvd hfl hIO hI=>?_
 subst hvd
 rw[K.body]
 refine ks_wpAt_execs_cons (ks_wpAt_Expr_any (ks_wpAt_MethodCall (pl:=(do return (←importBound (.Call (.Name "super" q.p0) [] [] q.p1) c.env).getD true)) ?_ ?_) ?_ rfl)
 ·rw[henv]
  refine ks_node R.F G.X R.N TT K.look (by rw[show(q.fd fn).params=q.params from rfl,K.po];exact K.ar) (by rw[K.arg];exact hv) hI K.cda K.vs K.file K.cc K.D K.mro K.nosup (by decide) K.ksup K.kcls (by rw[K.arg];exact K.kps) K.kind K.top K.boot fun so h1 F1 N1 lt1=>?_
  rw[←henv]
  have R1:=R.pushI (L:=[(so,ks_superObj q.D dd.1 (c.ac p.1))]) F1 N1 (FC ..) fun z hz y hy=>by rw[Ac.mp hz];exact As (lt1 y hy)
  have l1:BI k ⟨k.D,[(so,ks_superObj q.D dd.1 (c.ac p.1))]++k.I⟩:=BI.more _
  refine JJ R1 e1 e2 (hc.mono l1) fun dd' oo1' dxx' es' n' p1' p2' T' hvd' hfl' hIO' hI1=>?_
  have ed:dd=dd':=AG (AG (T.hD.symm.trans T'.hD))
  subst ed
  refine ks_method R1.F G.X R1.N (R1.inI (.head _)) hI1 K.third K.sup K.ty (by decide) fun y h2 F2 N2 lt2=>?_
  have R2:=R1.pushI (L:=[(y,methodObj (.ref (c.af g)) (.ref dd.1))]) F2 N2 (FC ..) fun z hz y hy=>by rw[Ac.mp hz];exact As (lt2 _ hy)
  have l2:=l1.trans (BI.more (k:=⟨k.D,[(so,ks_superObj q.D dd.1 (c.ac p.1))]++k.I⟩) [(y,methodObj (.ref (c.af g)) (.ref dd.1))])
  refine callWith_M (K:=c.K) G.X R2.N (R2.inI (.head _)) K.fng (spliced_cons ?_) rfl rfl
  refine AY.name G _ st {s with heap:=h2,toks:=s.toks+1} _ X o _ _ (.refl _) R2 P5 (fun k3 b bv st3 h3 t3 l3 R3 hb P3=>spliced_nil ?_) HE.err
  have hq3:=R3.inI (l3.2 _ (.head _))
  refine⟨⟨(R3.N _ hq3).1,G.X.keeps R3.F.keep⟩,call_meth R3.N hq3 ?_⟩
  have hx3:=hc.mono (l2.trans l3)
  refine IHc k3 [.obj i,b] [.ref dd.1,bv] ⟨_,_,hx3,.one hb,rfl⟩ k3 st3 {s with heap:=h3,toks:=t3} _ _ o _ (.refl _) R3 P3 (Sn (E:=E) (K:=fun zz s=>Cy r d (fn.body.drop 1) s K' X) (fun k4 zz zz st4 h4 t4 l4 R4 zz P4=>?_) HE.err (fun zz zz z=>z) fun zz zz z=>z)
  refine wpAt_of_wpAny ?_
  have e15:q.rest=fn.body.drop 1:=by rw[K.body];rfl
  rw[e15]
  exact IHx k4 k4 st4 _ K' X o _ E (.refl _) R4 P4 (HQ.ext (l2.trans (l3.trans l4))) HE.err
 ·rw[arm_eval_Call]
  have h1:methodCallForm ([Expr.Name q.px q.p3].length+([]:List Keyword).length) (backTo q.p4 (DK [Expr.Name q.px q.p3] c.env)) (DM q.p4 (CG [] c.env))=true:=rfl
  have h2:methodCallPos true (.Call (.Name "super" q.p0) [] [] q.p1) c.env q.p2 q.p4=Bn q.p4:=by unfold methodCallPos;simp[K.pos]
  unfold methodCall
  rw[h1,h2]
  rfl
 ·unfold interactive
  rw[henv]
  show(fn.scope.kind==_&&_)=false
  rw[K.kind];rfl
theorem Oh (G:Good c)(hroom:c.A.depth<Fi){f g j:Nat}{fn:Fn}(hK:∃q,Qf c.tp f fn g j q)(hfn:c.S.fns f=some fn)(hsup:fn.sup=some (g,j))
  (IHc:∀env g',Good (Cb c env g')→∀k xs vs,Ap c.tp k xs vs→Eo (Cb c env g') k (.call (.ref (c.af g)) ⟨vs,[]⟩) (F0 d g xs []))
  (IHx:∀env g',Good (Cb c env g')→HJ (Cb c env g')→∀k,AY (Cb c env g') k (CF c.tp) (execs (fn.body.drop 1) env) (Cy r d (fn.body.drop 1)))
  {xs:List V}{vs:List Value}{kx:List (Str×V)}{kv:List (Str×Value)}(hv:Ap c.tp k xs vs)(hk:CL c.tp k kx kv):Eo c k (.call (.ref (c.af f)) ⟨vs,kv⟩) (H5 c.S r d f xs kx):=by
 intro k₁ st s KK XX o Q l R P HQ
 refine hK.elim fun q K=>?_
 have hv:=hv.mono l
 have hk:=hk.mono l
 have X:c.K.In s.heap:=G.X.keeps R.F.keep
 have P:Y c.l o (oB (c.S.fns f) fun fn=>oB (K9 fn xs kx) fun b=>Iw r d fn (entry c.S fn.scope b st.heap) (Ho KK) (Hv XX)):=P
 rw[hfn] at P
 have P:Y c.l o (oB (K9 fn xs kx) fun b=>(match fn.sup with|none=>Cy r d fn.body|some gk=>I2 (T8 r d gk.1 gk.2 fn)) (entry c.S fn.scope b st.heap) (Ho KK) (Hv XX)):=P
 rw[hsup] at P
 refine Bh P fun bx hb P=>IJ hb fun hfit hb=>E1 hb fun hb=>?_
 subst hb
 have hdv:Ap c.tp k₁ fn.dflts []:=by rw[K.dflts];rfl
 have hbind:BindsTo s (q.fd fn) ⟨vs,kv⟩ (boundOf fn.params vs kv []):=fun M A E Q hQ=>
  N5 (fd:=q.fd fn) K.po K.as K.ko K.va K.ka (fun h=>by rw[show(q.fd fn).defaults= .none from K.dV];exact AJ (h none rfl)) (by rw[←CL.fits fn.params hv hk hdv];exact hfit) hQ
 have hkws:=CL.bound fn.params hv hk hdv
 have hbn:((boundOf fn.params vs kv ([]:List Value)).map (·.1)).Nodup:=J9 K.nodup _ _ _
 refine Zp (name:=q.name) (qual:=q.qual) (params:=q.params) (body:=fn.body) (scope:=fn.scope) (cdv:=.ref q.cda) (cc:=q.cc) (binds:=boundOf fn.params vs kv []) G.stays R.F R.N G.nolim G.frames (G.ff _ _ _ R.F R.N) (X _ _ K.look) rfl (codeRec_of X K.code) hroom hbind K.nocell
  (fun x hx=>lookup_nodup K.names (K.kinds _ (KO hx))) (fun g' L' h₁ tk Fg F₁ N₁ B₁ st₁ hlt E₁=>?_) K.co K.gen K.kind
 have G':Good (Cb c (ksEnv q.qual fn.scope L' (c.af f) (.ref q.cda) q.cc) g'):=
  ⟨G.top,K.kind,rfl,rfl,E6 G.frames,B₁.stays,fun h m news F N=>(groundX (R:=fun zz zz=>True) (s:={s with heap:=h}) (env:=ksEnv q.qual fn.scope L' (c.af f) (.ref q.cda) q.cc) B₁ F N (E6 G.frames) rfl K.kind).2.1.frames⟩
 have el:=Mz (env:=ksEnv q.qual fn.scope L' (c.af f) (.ref q.cda) q.cc) (h₀:=g') (J:=c.J) G.top hkws hbn K.names K.dbg K.nocell R.heap
 have hR:Al (Cb c (ksEnv q.qual fn.scope L' (c.af f) (.ref q.cda) q.cc) g').fm k₁ (entry c.S fn.scope (boundOf fn.params xs kx fn.dflts) st.heap) h₁:=⟨_,R.MO,F₁,N₁,R.nd,el.1,el.2⟩
 refine R0 (c:=Cb c (ksEnv q.qual fn.scope L' (c.af f) (.ref q.cda) q.cc) g') (j:=j) K G' rfl (IHc _ g' G') (IHx _ g' G' ⟨⟨c.outer,rfl⟩,rfl⟩) hR P (fun k' fl flow st'' h' tk' l' R'' hcf P'=>?_) ER.no
 refine leaveK_ R''.F R''.N fun F' N'=>?_
 have R4:Al c.fm k' ⟨st.loc,st''.heap⟩ h':=⟨R.m,R''.MO,F',N',R''.nd,R.loc.mono l',R''.heap⟩
 rcases fl with _|_
 case next=>rw[show flow= .next from hcf];exact HQ.1 k' .none _ _ h' tk' P' l' R4 rfl
 case ret v=>exact AR hcf fun w e hc=>by rw[e];exact HQ.1 k' v w _ h' tk' P' l' R4 hc
 all_goals exact P'.elim
end
theorem Vd {rc rc':Ay→Prop}{o:Except V V×List O}(h:∀t,rc t→rc' t)(t:Ay):Y1 rc o t→Y1 rc' o t:=by
 induction t with
 |none=>exact id
 |ret r h=>exact id
 |ite b x y ihx ihy=>rcases b with _|_<;>assumption
 |opt u a k ih=>
  rcases a with _|x
  ·exact id
  ·exact ih x
 |_=>exact h _
theorem ZD {S:BD}{o:Except V V×List O}(n:Nat):∀t,rc S o n t→rc S o (n+1) t:=by
 induction n with
 |zero=>exact fun t h=>h.elim
 |succ n ih=>exact fun t h=>Vd ih _ h
theorem Ol {S:BD}{n:Nat}{o:Except V V×List O}{t:Ay}(h:Y ⟨S,n⟩ o t):Y ⟨S,n+1⟩ o t:=Vd (ZD n) t h
noncomputable abbrev Cx.dn (c:Cx)(n:Nat):Cx:=⟨c.fm,c.A,c.outer,n⟩
theorem FV.dn {α β:Type}{c:Cx}{C:Kn→α→β→Prop}{k:Kn}{s:Shared}{K:α→St→Ay}{o:Except V V×List O}{Q:β→Shared→Prop}{n:Nat}(e:c.lv=n+1)(H:FV c C k s K o Q):FV (c.dn n) C k s K o Q:=
 fun k' a b st' h' tk l R hc P=>H k' a b st' h' tk l R hc (by show Y ⟨c.S,c.lv⟩ o _;rw[e];exact Ol P)
theorem G6.dn {c:Cx}{k:Kn}{s:Shared}{X:V→St→Ay}{o:Except V V×List O}{E:Value→Shared→Prop}{n:Nat}(e:c.lv=n+1)(H:G6 c k s X o E):G6 (c.dn n) k s X o E:=
 fun k' a st' x h' tk l R t P=>H k' a st' x h' tk l R t (by show Y ⟨c.S,c.lv⟩ o _;rw[e];exact Ol P)
theorem ER.dn {c:Cx}{X:V→St→Ay}{o:Except V V×List O}{n:Nat}(e:c.lv=n+1)(H:ER c X o):ER (c.dn n) X o:=
 fun a st' P=>H a st' (by show Y ⟨c.S,c.lv⟩ o _;rw[e];exact Ol P)
theorem Jr {S:BD}{lv n:Nat}{o:Except V V×List O}{t t':Ay}(e:lv=n+1)(h:Y ⟨S,lv⟩ o t)(hn:∀rc:Ay→Prop,Y1 rc o t→rc t)(ht:stp S t=t'):Y ⟨S,n⟩ o t':=by
 subst e ht
 exact hn _ h
theorem BS.dn {c:Cx}{d n:Nat}(G:BS c d):BS (c.dn n) d:=⟨⟨G.1.top,G.1.kind,G.1.gl,G.1.bi,G.1.frames,G.1.stays,G.1.ff⟩,G.2,G.3,G.4,G.5⟩
theorem EI.dn {c:Cx}{d n:Nat}(G:EI c d):EI (c.dn n) d:=⟨⟨G.1.top,G.1.kind,G.1.gl,G.1.bi,G.1.frames,G.1.stays,G.1.ff⟩,G.2,G.3,G.4,G.5⟩
structure Na (θ:Tp)(n:Nat):Prop where
 whl:∀c d,c.tp=θ→c.lv=n→BS c d→HJ c→∀k t b,Lj c k (.whileLoop t b [] c.env) (Go d t b)
 frl:∀c d,c.tp=θ→c.lv=n→BS c d→HJ c→Nd c d
 cmp:∀c d,c.tp=θ→c.lv=n→BS c d→Ql c d
 call:∀c d,c.tp=θ→c.lv=n→EI c d→Jb c d
structure Ym (θ:Tp)(n:Nat)(r:GT):Prop where
 ev:∀c d,c.tp=θ→c.lv=n→BS c d→∀k e,AY c k (CV c) (eval e c.env) (r.ev d e)
 evu:∀c d,c.tp=θ→c.lv=n→BS c d→∀k elt gs sc p x xp,c.env.kindOf x=some .local→AY c k CU (evalThenUse (.ListComp elt gs sc p) c.env (assign (.Name x xp) c.env)) ((r.ev d (.ListComp elt gs sc p)).bind fun v=>FB x v)
 tr:∀c d,c.tp=θ→c.lv=n→BS c d→∀k e,AY c k CB (isTrue e c.env (eval e c.env)) (r.tr d e)
 ex:∀c d,c.tp=θ→c.lv=n→BS c d→HJ c→∀k s,AY c k (CF c.tp) (exec s c.env) (r.ex d s)
theorem BS.callee {c:Cx}{d:Nat}(G:EI c (d+1)){env:Env}{g:Heap}(h:Good (Cb c env g)):BS (Cb c env g) d:=by
 have h1:=G.2
 have h2:=G.3
 refine⟨h,?_,?_,fun zz=>G.4 rfl,.inl G.5⟩
 ·show c.A.units+3+8 * d+20≤cLine
  lia
 ·show c.A.depth+1+2 * d≤900
  lia
noncomputable def Li (θ:Tp):Prop:=∀f fn g k,θ.S.fns f=some fn→fn.sup=some (g,k)→∃q,Qf θ f fn g k q
theorem PB {θ:Tp}(T:EV θ){n:Nat}(Z:Na θ n)(m:Nat):Ym θ n (E θ.S m):=by
 induction m with
 |zero=>exact⟨fun c d zz zz zz k e=>.stuck,fun c d zz zz zz k elt gs sc p x xp zz=>.stuck,fun c d zz zz zz k e=>.stuck,fun c d zz zz zz zz k e=>.stuck⟩
 |succ m ih=>
  refine⟨fun c d h hn G k e=>?_,fun c d h hn G k elt gs sc p x xp hl=>?_,fun c d h hn G k e=>?_,fun c d h hn G ow k s=>?_⟩
  ·subst h
   exact W5 G T (ih.ev c d rfl hn G) (ih.tr c d rfl hn G) (fun c' d' h h' g=>Z.call c' d' h (h'.trans hn) g) (fun k elt t iter ifs sc pos=>TS G (ih.ev c d rfl hn G) (fun c' d' h h' g=>Z.cmp c' d' h (h'.trans hn) g)) e
  ·subst h
   refine .look fun g hg=>?_
   rcases gs with _|⟨g1,gs⟩
   ·exact AU hg
   ·
    rcases g1 with⟨t,iter,ifs,n'⟩
    ·
     rcases gs with _|_
     ·
      refine IJ hg fun h0 hg'=>E1 hg' fun hg'=>?_
      subst h0 hg'
      exact RH G (ih.ev c d rfl hn G) (fun c' d' h h' g=>Z.cmp c' d' h (h'.trans hn) g) hl
     ·exact AU hg
  ·subst h
   exact Vx G T (ih.ev c d rfl hn G) (ih.tr c d rfl hn G) e
  ·subst h
   exact W4 G T (ih.ev c d rfl hn G) (ih.evu c d rfl hn G) (ih.tr c d rfl hn G) ow (fun c' d' h h' g=>Z.call c' d' h (h'.trans hn) g) (ih.ex c d rfl hn G ow) (fun c' h h' g o=>ih.ex c' 0 h (h'.trans hn) g o) (Z.whl c d rfl hn G ow) (fun c' h h' g o=>Z.frl c' d h (h'.trans hn) g o) s
theorem TI {θ:Tp}(T:EV θ)(T2:Li θ){n:Nat}(Z:Na θ n):Na θ (n+1):=by
 have ZE:=PB T Z 40
 refine⟨fun c d h hn G ow k t b=>?_,fun c d h hn G ow=>?_,fun c d h hn G=>?_,fun c d h hn G f k xs vs kx kv hv hk=>?_⟩
 ·subst h
  intro k₁ st s K X o R l Rl P HQ HE
  exact Vw (c:=c.dn n) G.dn.1 ow (ZE.tr (c.dn n) d rfl rfl G.dn) (ZE.ex (c.dn n) d rfl rfl G.dn ow) (fun k=>Z.whl (c.dn n) d rfl rfl G.dn ow k t b) k₁ st s K X o R l Rl (Jr hn P (fun zz h=>h) rfl) (HQ.dn hn) (HE.dn hn)
 ·subst h
  intro hz t b it j p L k st s K X o R H hok Rl P HQ HE
  exact W3 (c:=c.dn n) G.dn ow hz T (fun c' h h' g=>ZE.ev c' d h h' g) (fun c' h h' g o=>ZE.ex c' d h h' g o) (Z.frl (c.dn n) d rfl rfl G.dn ow) H hok Rl (Jr hn P (fun zz h=>h) rfl) (HQ.dn hn) (HE.dn hn)
 ·subst h
  intro elt t iter ifs sc pos it j p i x L k st s K X o Q H hok hx Rl P HQ HE hz
  exact TU (c:=c.dn n) G.dn T (fun c' h h' g=>ZE.ev c' d h h' g) (fun c' h h' g=>ZE.tr c' d h h' g) (Z.cmp (c.dn n) d rfl rfl G.dn) H hok hx Rl (Jr hn P (fun zz h=>h) rfl) (HQ.dn hn) (HE.dn hn) hz
 ·subst h
  have hroom:c.A.depth<Fi:=by
   have:=G.3
   show c.A.depth<1000
   lia
  rcases d with _|d
  ·exact fun k₁ st s K X o Q zz zz P=>P.elim
  ·
   intro k₁ st s KK XX o Q l R P HQ
   have P:Y (c.dn n).l o (H5 c.S (E c.S 40) d f xs kx st.heap KK XX):=Jr hn P (fun zz h=>h) rfl
   have HQ:Uo (c.dn n) k₁ st.loc s KK XX o Q:=⟨fun k' v b hp h' tk P l R' hc=>HQ.1 k' v b hp h' tk (by show Y ⟨c.S,c.lv⟩ o _;rw[hn];exact Ol P) l R' hc,fun k' a e hp h' tk P l R'=>HQ.2 k' a e hp h' tk (by show Y ⟨c.S,c.lv⟩ o _;rw[hn];exact Ol P) l R'⟩
   refine(show Eo (c.dn n) k (.call (.ref (c.af f)) ⟨vs,kv⟩) (H5 c.S (E c.S 40) d f xs kx) from ?_) k₁ st s KK XX o Q l R P HQ
   rcases hfn:c.S.fns f with _|fn
   ·
    intro k₁ st s KK XX o Q _ _ P
    have P:Y (c.dn n).l o (oB (c.S.fns f) fun fn=>oB (K9 fn xs kx) fun b=>Iw (E c.S 40) d fn (entry c.S fn.scope b st.heap) (Ho KK) (Hv XX)):=P
    rw[hfn] at P
    exact P.elim
   ·
    have G1:Good (c.dn n):=(EI.dn G).1
    rcases hsup:fn.sup with _|gk
    ·
     refine Ox G1 hroom (T.fn f fn hfn hsup) hfn (fun env g k h ow=>?_) hv hk
     have G':=BS.callee (EI.dn G) h
     unfold Iw
     rw[hsup]
     exact FK (c:=Cb (c.dn n) env g) (ZE.ex (Cb (c.dn n) env g) d rfl rfl G' ow) fn.body
    ·
     exact Oh G1 hroom (T2 f fn gk.1 gk.2 hfn hsup) hfn hsup (fun env g' h k xs vs hv=>Z.call (Cb (c.dn n) env g') d rfl rfl (BS.callee (EI.dn G) h).one gk.1 k xs vs [] [] hv rfl) (fun env g' h ow k=>by
      have G':=BS.callee (EI.dn G) h
      exact FK (c:=Cb (c.dn n) env g') (ZE.ex (Cb (c.dn n) env g') d rfl rfl G' ow) _) hv hk
theorem Z7 {θ:Tp}(T:EV θ)(T2:Li θ)(n:Nat):Na θ n:=by
 induction n with
 |zero=>exact⟨fun c d zz hn zz zz k t b k₁ st s K X o Q zz zz P=>by have P:Y ⟨c.S,c.lv⟩ o _:=P;rw[hn] at P;exact P.elim,fun c d zz hn zz zz zz t b it j p L k st s K X o R zz zz zz P=>by have P:Y ⟨c.S,c.lv⟩ o _:=P;rw[hn] at P;exact P.elim,
  fun c d zz hn zz elt t iter ifs sc pos it j p i x L k st s K X o Q zz zz zz zz P=>by have P:Y ⟨c.S,c.lv⟩ o _:=P;rw[hn] at P;exact P.elim,fun c d zz hn zz f k xs vs kx kv zz zz k₁ st s K X o Q zz zz P=>by
   have P:Y ⟨c.S,c.lv⟩ o _:=P
   rw[hn] at P
   rcases d with _|_<;>exact P.elim⟩
 |succ n ih=>exact TI T T2 ih
noncomputable def DA (S:BD)(o:Except V V×List O)(t:Ay):Prop:=∃n,Y ⟨S,n⟩ o t
noncomputable def AN (S:BD)(d f:Nat)(vs:List V)(kws:List (Str×V))(h:List O)(v:V)(h':List O):Prop:=∀k e o,DA S o (k v h')→DA S o (.call d f vs kws h k e)
noncomputable def BC (S:BD)(d:Nat)(t:Expr)(b:List Stmt)(s:St)(f:Fl)(s':St):Prop:=∀k e o,DA S o (k f s')→DA S o (.whl d t b s k e)
noncomputable def BK (S:BD)(d:Nat)(t:Expr)(it:It)(j:Nat)(b:List Stmt)(s:St)(f:Fl)(s':St):Prop:=∀k e o,DA S o (k f s')→DA S o (.frl d t it j b s k e)
noncomputable def Ea (S:BD)(d:Nat)(elt t:Expr)(ifs:List Expr)(it:It)(j i:Nat)(s s':St):Prop:=∀k e o,DA S o (k () s')→DA S o (.cmp d elt t ifs it j i s k e)
noncomputable def D2 (S:BD)(d f:Nat)(vs:List V)(kws:List (Str×V))(h:List O)(v:V)(h':List O):Prop:=∀k e o,DA S o (e v h')→DA S o (.call d f vs kws h k e)
noncomputable def Dd (S:BD)(d:Nat)(t:Expr)(b:List Stmt)(s:St)(v:V)(s':St):Prop:=∀k e o,DA S o (e v s')→DA S o (.whl d t b s k e)
noncomputable def HT (S:BD)(d:Nat)(t:Expr)(it:It)(j:Nat)(b:List Stmt)(s:St)(v:V)(s':St):Prop:=∀k e o,DA S o (e v s')→DA S o (.frl d t it j b s k e)
inductive Dz where
 |a (n:Nat)
 |t|f
 |v (u:U) (x:u.T)
 |c (v:V) (h:List O)
 |i
 |w (f:Fl) (s:St)
 |m (s:St)
 |x (v:V) (h:List O)
 |y (v:V) (s:St)
set_option backward.match.sparseCases false in
noncomputable def NX:(u u':U)→u.T→Option u'.T
 | .nat,.nat,x=>some x
 | .vals,.vals,x=>some x
 | .strs,.strs,x=>some x
 | .ob,.ob,x=>some x
 | .val,.val,x=>some x
 | .oval,.oval,x=>some x
 | .ents,.ents,x=>some x
 | .bool,.bool,x=>some x
 |_,_,_=>none
set_option backward.match.sparseCases false in
noncomputable def Qd:Nat→Ay→Ay
 |0,t=>t
 |n+1,.ite b x y=>Qd n (bif b then x else y)
 |n+1,.opt _ (some a) k=>Qd n (k a)
 |_+1,t=>t
noncomputable def HR (p:Prop)(q:Prop×Ay):Prop×Ay:=(p∧q.1,q.2)
set_option backward.match.sparseCases false in
noncomputable def Cu (S:BD):List Dz→Ay→Prop×Ay
 |[],t=>(True,t)
 |q::r,t=>match q,t with
  | .a n,t=>Cu S r (Qd n t)
  | .t,.ite b x _=>HR (b=true) (Cu S r x)
  | .f,.ite b _ y=>HR (b=false) (Cu S r y)
  | .v u x,.opt u' o k=>match NX u u' x with
   |some z=>HR (o=some z) (Cu S r (k z))
   |none=>(False,.none)
  | .c v h',.call d f vs kws h k _=>HR (AN S d f vs kws h v h') (Cu S r (k v h'))
  | .i,t=>Cu S r (stp S t)
  | .w f s',.whl d t b s k _=>HR (BC S d t b s f s') (Cu S r (k f s'))
  | .w f s',.frl d t it j b s k _=>HR (BK S d t it j b s f s') (Cu S r (k f s'))
  | .x v h',.call d f vs kws h _ e=>HR (D2 S d f vs kws h v h') (Cu S r (e v h'))
  | .y v s',.whl d t b s _ e=>HR (Dd S d t b s v s') (Cu S r (e v s'))
  | .y v s',.frl d t it j b s _ e=>HR (HT S d t it j b s v s') (Cu S r (e v s'))
  | .m s',.cmp d elt t ifs it j i s k _=>HR (Ea S d elt t ifs it j i s s') (Cu S r (k () s'))
  |_,_=>(False,.none)
theorem Yi {l:Lv}{o:Except V V×List O}(n:Nat):∀t,Y l o (Qd n t)→Y l o t:=by
 induction n with
 |zero=>exact fun t h=>h
 |succ n ih=>
  intro t h
  rcases t with _|_|⟨b,x,y⟩|⟨u,a,k⟩|_
  case ite=>
   rcases b with _|_
   ·exact ih y h
   ·exact ih x h
  case opt=>
   rcases a with _|a
   ·exact h
   ·exact ih (k a) h
  all_goals exact h
theorem DA.stp {S:BD}{o:Except V V×List O}{t:Ay}(h:DA S o (stp S t)):DA S o t:=by
 refine h.elim fun n h=>?_
 rcases t with _|_<;>first|exact⟨n,h⟩|exact⟨n+1,h⟩
theorem PI {S:BD}{o:Except V V×List O}:∀(is:List Dz) (t:Ay),(Cu S is t).1→DA S o (Cu S is t).2→DA S o t
 |[],t,_,h=>h
 |q::r,t,hp,h=>by
  have ih:=PI (S:=S) (o:=o) r
  cases q with
  |a n=>exact(ih _ hp h).imp fun m h=>Yi n t h
  |i=>exact(ih _ hp h).stp
  |t=>
   rcases t with _|_|⟨b,x,y⟩|_
   case ite=>
    have hp:b=true∧(Cu S r x).1:=hp
    have:=ih x hp.2 h
    rw[hp.1]
    exact this
   all_goals exact hp.elim
  |f=>
   rcases t with _|_|⟨b,x,y⟩|_
   case ite=>
    have hp:b=false∧(Cu S r y).1:=hp
    have:=ih y hp.2 h
    rw[hp.1]
    exact this
   all_goals exact hp.elim
  |v u x=>
   rcases t with _|_|_|⟨u',a,k⟩|_
   case opt=>
    have hp:(match NX u u' x with
     |some z=>HR (a=some z) (Cu S r (k z))
     |none=>(False,.none)).1:=hp
    have h:DA S o (match NX u u' x with
     |some z=>HR (a=some z) (Cu S r (k z))
     |none=>(False,.none)).2:=h
    rcases e:NX u u' x with _|z
    ·rw[e] at hp;exact hp.elim
    ·
     rw[e] at hp h
     have hp:a=some z∧(Cu S r (k z)).1:=hp
     have:=ih _ hp.2 h
     rw[hp.1]
     exact this
   all_goals exact hp.elim
  |c v h'=>
   rcases t with _|_|_|_|⟨d,f,vs,kws,h1,k,e⟩|_
   case call=>
    have hp:AN S d f vs kws h1 v h'∧(Cu S r (k v h')).1:=hp
    exact hp.1 k e o (ih _ hp.2 h)
   all_goals exact hp.elim
  |w f s'=>
   rcases t with _|_|_|_|_|⟨d,t,b,s,k,e⟩|⟨d,t,it,j,b,s,k,e⟩|_
   case whl=>
    have hp:BC S d t b s f s'∧(Cu S r (k f s')).1:=hp
    exact hp.1 k e o (ih _ hp.2 h)
   case frl=>
    have hp:BK S d t it j b s f s'∧(Cu S r (k f s')).1:=hp
    exact hp.1 k e o (ih _ hp.2 h)
   all_goals exact hp.elim
  |x v h'=>
   rcases t with _|_|_|_|⟨d,f,vs,kws,h1,k,e⟩|_
   case call=>
    have hp:D2 S d f vs kws h1 v h'∧(Cu S r (e v h')).1:=hp
    exact hp.1 k e o (ih _ hp.2 h)
   all_goals exact hp.elim
  |y v s'=>
   rcases t with _|_|_|_|_|⟨d,t,b,s,k,e⟩|⟨d,t,it,j,b,s,k,e⟩|_
   case whl=>
    have hp:Dd S d t b s v s'∧(Cu S r (e v s')).1:=hp
    exact hp.1 k e o (ih _ hp.2 h)
   case frl=>
    have hp:HT S d t it j b s v s'∧(Cu S r (e v s')).1:=hp
    exact hp.1 k e o (ih _ hp.2 h)
   all_goals exact hp.elim
  |m s'=>
   rcases t with _|_|_|_|_|_|_|⟨d,elt,t,ifs,it,j,i,s,k,e⟩
   case cmp=>
    have hp:Ea S d elt t ifs it j i s s'∧(Cu S r (k () s')).1:=hp
    exact hp.1 k e o (ih _ hp.2 h)
   all_goals exact hp.elim
theorem DR {S:BD}{o:Except V V×List O}{is:List Dz}{t t':Ay}{p:Prop}(hp:p)(e:Cu S is t=(p,t'))(h:DA S o t'):DA S o t:=
 PI is t (by rw[e];exact hp) (by rw[e];exact h)
noncomputable abbrev KC:=V→List O→Ay
noncomputable abbrev KF:=Fl→St→Ay
noncomputable abbrev KE:=V→St→Ay
noncomputable abbrev PO:=Prop×Ay
noncomputable def aC (S:BD)(is:List Dz)(d f:Nat)(vs:List V)(kws:List (Str×V))(h:List O):KC→KC→PO:=fun k e=>Cu S is (H5 S (E S 40) d f vs kws h k e)
noncomputable def V1 (S:BD)(is:List Dz)(d:Nat)(t:Expr)(b:List Stmt)(s:St):KF→KE→PO:=fun k e=>Cu S is (Su (E S 40) d t b s k e)
noncomputable def V2 (S:BD)(is:List Dz)(d:Nat)(t:Expr)(it:It)(j:Nat)(b:List Stmt)(s:St):KF→KE→PO:=fun k e=>Cu S is (UA S (E S 40) d t it j b s k e)
noncomputable def aB (S:BD)(is:List Dz)(d:Nat)(elt t:Expr)(ifs:List Expr)(it:It)(j i:Nat)(s:St):(Unit→St→Ay)→KE→PO:=fun k e=>Cu S is (US S (E S 40) d elt t ifs it j i s k e)
noncomputable def bp (p:Prop)(v:V)(h:List O):KC→KC→PO:=fun k zz=>(p,k v h)
noncomputable def bn (p:Prop)(v:V)(h:List O):KC→KC→PO:=fun zz e=>(p,e v h)
noncomputable def Uy (p:Prop)(f:Fl)(s:St):KF→KE→PO:=fun k zz=>(p,k f s)
noncomputable def XK (p:Prop)(v:V)(s:St):KF→KE→PO:=fun zz e=>(p,e v s)
noncomputable def bk (p:Prop)(s:St):(Unit→St→Ay)→KE→PO:=fun k zz=>(p,k () s)
noncomputable def aL (p:Prop)(d:Nat)(t:Expr)(b:List Stmt)(s:St):KF→KE→PO:=fun k e=>(p,.whl d t b s k e)
noncomputable def aM (p:Prop)(d:Nat)(t:Expr)(it:It)(j:Nat)(b:List Stmt)(s:St):KF→KE→PO:=fun k e=>(p,.frl d t it j b s k e)
noncomputable def bw (p:Prop)(d:Nat)(elt t:Expr)(ifs:List Expr)(it:It)(j i:Nat)(s:St):(Unit→St→Ay)→KE→PO:=fun k e=>(p,.cmp d elt t ifs it j i s k e)
theorem HW {α β γ:Type}{f g:α→β→γ}(e:f=g)(a:α)(b:β):f a b=g a b:=congrFun (congrFun e a) b
theorem AN.by {S:BD}{d f:Nat}{vs:List V}{kws:List (Str×V)}{h:List O}{v:V}{h':List O}(is:List Dz){p:Prop}(hp:p)(e:aC S is d f vs kws h=bp p v h'):AN S d f vs kws h v h':=
 fun k e' o y=>(DR hp (HW e k e') y).stp
theorem BC.by {S:BD}{d:Nat}{t:Expr}{b:List Stmt}{s:St}{f:Fl}{s':St}(is:List Dz){p:Prop}(hp:p)(e:V1 S is d t b s=Uy p f s'):BC S d t b s f s':=
 fun k e' o y=>(DR hp (HW e k e') y).stp
theorem BC.go {S:BD}{d:Nat}{t:Expr}{b:List Stmt}{s s1:St}{f:Fl}{s':St}(is:List Dz)(n:BC S d t b s1 f s'){p:Prop}(hp:p)(e:V1 S is d t b s=aL p d t b s1):BC S d t b s f s':=
 fun k e' o y=>(DR hp (HW e k e') (n k e' o y)).stp
theorem BK.by {S:BD}{d:Nat}{t:Expr}{it:It}{j:Nat}{b:List Stmt}{s:St}{f:Fl}{s':St}(is:List Dz){p:Prop}(hp:p)(e:V2 S is d t it j b s=Uy p f s'):BK S d t it j b s f s':=
 fun k e' o y=>(DR hp (HW e k e') y).stp
theorem BK.go {S:BD}{d:Nat}{t:Expr}{it:It}{j:Nat}{b:List Stmt}{s s1:St}{f:Fl}{s':St}(is:List Dz)(n:BK S d t it (j+1) b s1 f s'){p:Prop}(hp:p)(e:V2 S is d t it j b s=aM p d t it (j+1) b s1):BK S d t it j b s f s':=
 fun k e' o y=>(DR hp (HW e k e') (n k e' o y)).stp
theorem Ea.by {S:BD}{d:Nat}{elt t:Expr}{ifs:List Expr}{it:It}{j i:Nat}{s s':St}(is:List Dz){p:Prop}(hp:p)(e:aB S is d elt t ifs it j i s=bk p s'):Ea S d elt t ifs it j i s s':=
 fun k e' o y=>(DR hp (HW e k e') y).stp
theorem Ea.go {S:BD}{d:Nat}{elt t:Expr}{ifs:List Expr}{it:It}{j i:Nat}{s s1 s':St}(is:List Dz)(n:Ea S d elt t ifs it (j+1) i s1 s'){p:Prop}(hp:p)(e:aB S is d elt t ifs it j i s=bw p d elt t ifs it (j+1) i s1):Ea S d elt t ifs it j i s s':=
 fun k e' o y=>(DR hp (HW e k e') (n k e' o y)).stp
theorem D2.by {S:BD}{d f:Nat}{vs:List V}{kws:List (Str×V)}{h:List O}{v:V}{h':List O}(is:List Dz){p:Prop}(hp:p)(e:aC S is d f vs kws h=bn p v h'):D2 S d f vs kws h v h':=
 fun k e' o y=>(DR hp (HW e k e') y).stp
theorem Dd.by {S:BD}{d:Nat}{t:Expr}{b:List Stmt}{s:St}{v:V}{s':St}(is:List Dz){p:Prop}(hp:p)(e:V1 S is d t b s=XK p v s'):Dd S d t b s v s':=
 fun k e' o y=>(DR hp (HW e k e') y).stp
theorem Dd.go {S:BD}{d:Nat}{t:Expr}{b:List Stmt}{s s1:St}{v:V}{s':St}(is:List Dz)(n:Dd S d t b s1 v s'){p:Prop}(hp:p)(e:V1 S is d t b s=aL p d t b s1):Dd S d t b s v s':=
 fun k e' o y=>(DR hp (HW e k e') (n k e' o y)).stp
theorem HT.by {S:BD}{d:Nat}{t:Expr}{it:It}{j:Nat}{b:List Stmt}{s:St}{v:V}{s':St}(is:List Dz){p:Prop}(hp:p)(e:V2 S is d t it j b s=XK p v s'):HT S d t it j b s v s':=
 fun k e' o y=>(DR hp (HW e k e') y).stp
theorem HT.go {S:BD}{d:Nat}{t:Expr}{it:It}{j:Nat}{b:List Stmt}{s s1:St}{v:V}{s':St}(is:List Dz)(n:HT S d t it (j+1) b s1 v s'){p:Prop}(hp:p)(e:V2 S is d t it j b s=aM p d t it (j+1) b s1):HT S d t it j b s v s':=
 fun k e' o y=>(DR hp (HW e k e') (n k e' o y)).stp
noncomputable def Ly:List Stmt:=PySem.Challenge.pw_te0006_01.main.body
noncomputable def Bv:List Stmt→Nat→Stmt
 |[],_=>.Pass default
 |s::_,0=>s
 |_::r,n+1=>Bv r n
set_option backward.match.sparseCases false in
noncomputable def c7:Stmt→Option (Arguments×List Stmt×Scope)
 | .FunctionDef _ a b _ _ _ sc _ _ _=>some (a,b,sc)
 |_=>none
set_option backward.match.sparseCases false in
noncomputable def Yb:Stmt→List Stmt
 | .ClassDef _ _ _ b _ _ _ _ _ _ _=>b
 |_=>[]
set_option backward.match.sparseCases false in
noncomputable def SW:Stmt→Expr
 | .Assign _ e _=>e
 |_=>.Constant .none 0 default
set_option backward.match.sparseCases false in
noncomputable def NV:Expr→V
 | .Constant .none _ _=>.none
 | .Constant (.int i) _ _=>.int i
 | .Constant (.str x) _ _=>.str x
 |_=>.undef
noncomputable def bA (sup:Option (Nat×Nat))(d:Option (Arguments×List Stmt×Scope)):Option Fn:=d.map fun(a,b,sc)=>{params:=a.args.map (·.arg),dflts:=a.defaults.map NV,body:=b,scope:=sc,sup}
noncomputable def c8 (i:Nat)(j:Option Nat):Option (Arguments×List Stmt×Scope):=c7 (match j with|none=>Bv Ly i|some j=>Bv (Yb (Bv Ly i)) j)
noncomputable def Rb:List (Option (Nat×Nat)×Nat×Option Nat):=[
 (none,2,some 0),
 (none,4,some 0),
 (none,7,none),
 (none,8,some 0),
 (none,8,some 1),
 (none,8,some 2),
 (none,8,some 3),
 (none,8,some 4),
 (none,8,some 5),
 (none,8,some 6),
 (none,10,some 0),
 (none,14,some 1),
 (none,30,some 1),
 (none,33,some 0),
 (some (3,8),34,some 0),
 (none,34,some 3),
 (none,34,some 4),
 (none,34,some 5),
 (none,34,some 6),
 (none,34,some 7),
 (none,34,some 8),
 (none,34,some 9),
 (none,34,some 10),
 (none,34,some 11),
 (none,34,some 12),
 (none,34,some 13),
 (none,34,some 25),
 (none,34,some 34),
 (none,34,some 35),
 (none,34,some 36),
 (none,34,some 41),
 (none,34,some 39),
 (none,34,some 40),
 (none,34,some 45),
 (none,34,some 61),
 (none,34,some 64),
 (none,34,some 65),
 (none,34,some 66),
 (none,34,some 72),
 (none,37,none),
 (none,38,none),
 (none,39,none),
 (none,40,none),
 (none,41,none),
 (none,42,none),
 (none,43,none),
 (none,44,none),
 (none,45,none)]
noncomputable def OR (k:Nat):Option Fn:=Rb[k]?.bind fun q=>bA q.1 (c8 q.2.1 q.2.2)
noncomputable def fnN (k:Nat):Fn:=(OR k).getD ⟨[],[],[],⟨.function,[],false,false,[]⟩,none⟩
noncomputable def C9 (k:Nat):List Stmt:=(fnN k).body
noncomputable def UV:Fz:={kind:=.rcd,init:=0,attrs:=[(("name":Str),.free),(("index":Str),.free),(("line":Str),.free),(("column":Str),.free),(("buffer":Str),.free),(("pointer":Str),.free)]}
noncomputable def YV:Fz:={kind:=.rcd,init:=11,attrs:=[(("start_mark":Str),.free),(("end_mark":Str),.free),(("encoding":Str),.free)]}
noncomputable def YU:Fz:={kind:=.rcd,init:=10,attrs:=[(("start_mark":Str),.free),(("end_mark":Str),.free)]}
noncomputable def YT:Fz:={kind:=.rcd,init:=10,attrs:=[(("start_mark":Str),.free),(("end_mark":Str),.free)]}
noncomputable def YS:Fz:={kind:=.rcd,init:=10,attrs:=[(("start_mark":Str),.free),(("end_mark":Str),.free)]}
noncomputable def YR:Fz:={kind:=.rcd,init:=10,attrs:=[(("start_mark":Str),.free),(("end_mark":Str),.free)]}
noncomputable def YQ:Fz:={kind:=.rcd,init:=12,attrs:=[(("value":Str),.free),(("plain":Str),.free),(("start_mark":Str),.free),(("end_mark":Str),.free),(("style":Str),.free)]}
noncomputable def YP:Fz:={kind:=.rcd,init:=13,attrs:=[(("token_number":Str),.free),(("required":Str),.free),(("index":Str),.free),(("line":Str),.free),(("column":Str),.free),(("mark":Str),.free)]}
noncomputable def YO:Fz:={kind:=.self,init:=14,attrs:=[(("name":Str),.free),(("stream":Str),.free),(("stream_pointer":Str),.free),(("eof":Str),.free),(("buffer":Str),.free),(("pointer":Str),.free),(("raw_buffer":Str),.free),(("raw_decode":Str),.free),(("encoding":Str),.free),(("index":Str),.free),(("line":Str),.free),(("column":Str),.free),(("done":Str),.free),(("flow_level":Str),.free),(("tokens":Str),.free),(("tokens_taken":Str),.free),(("indent":Str),.free),(("indents":Str),.free),(("allow_simple_key":Str),.free),(("possible_simple_keys":Str),.free),(("peek":Str),.fn 4),(("prefix":Str),.fn 5),(("forward":Str),.fn 6),(("get_mark":Str),.fn 7),(("check_printable":Str),.fn 8),(("update":Str),.fn 9),(("get_token":Str),.fn 15),(("need_more_tokens":Str),.fn 16),(("fetch_more_tokens":Str),.fn 17),(("next_possible_simple_key":Str),.fn 18),(("stale_possible_simple_keys":Str),.fn 19),(("save_possible_simple_key":Str),.fn 20),(("remove_possible_simple_key":Str),.fn 21),(("unwind_indent":Str),.fn 22),(("add_indent":Str),.fn 23),(("fetch_stream_start":Str),.fn 24),(("fetch_stream_end":Str),.fn 25),(("fetch_block_entry":Str),.fn 26),(("fetch_single":Str),.fn 27),(("fetch_double":Str),.fn 28),(("fetch_flow_scalar":Str),.fn 29),(("check_block_entry":Str),.fn 30),(("check_document_start":Str),.fn 31),(("check_document_end":Str),.fn 32),(("scan_to_next_token":Str),.fn 33),(("scan_flow_scalar":Str),.fn 34),(("scan_flow_scalar_non_spaces":Str),.fn 35),(("scan_flow_scalar_spaces":Str),.fn 36),(("scan_flow_scalar_breaks":Str),.fn 37),(("scan_line_break":Str),.fn 38),(("ESCAPE_REPLACEMENTS":Str),.sta 0),(("ESCAPE_CODES":Str),.sta 1)]}
noncomputable def YN:Fz:={kind:=.exc,init:=1,attrs:=[(("context":Str),.free),(("context_mark":Str),.free),(("problem":Str),.free),(("problem_mark":Str),.free),(("note":Str),.free)]}
noncomputable def JX (k:Nat):Option Fz:=[UV,YV,YU,YT,YS,YR,YQ,YP,YO,YN][k]?
noncomputable def globL:List (Str×V):=[
 (("_is_printable":Str),.fn 2),
 (("_law_FAULTS":Str),.fn 39),
 (("_law_ENDS":Str),.fn 40),
 (("_law_SHORT":Str),.fn 41),
 (("_law_LONG":Str),.fn 42),
 (("_law_HEX":Str),.fn 43),
 (("_law_end":Str),.fn 44),
 (("_law_rows":Str),.fn 45),
 (("_law_value":Str),.fn 46),
 (("law":Str),.fn 47),
 (("Mark":Str),.cls 0),
 (("StreamStartToken":Str),.cls 1),
 (("StreamEndToken":Str),.cls 2),
 (("BlockSequenceStartToken":Str),.cls 3),
 (("BlockEndToken":Str),.cls 4),
 (("BlockEntryToken":Str),.cls 5),
 (("ScalarToken":Str),.cls 6),
 (("SimpleKey":Str),.cls 7),
 (("Scanner":Str),.cls 8),
 (("ScannerError":Str),.cls 9),
 (("_law_PIECES":Str),.sta 2),
 (("len":Str),.bi "len"),
 (("isinstance":Str),.bi "isinstance"),
 (("chr":Str),.bi "chr"),
 (("all":Str),.bi "all"),
 (("range":Str),.ty "range"),
 (("enumerate":Str),.ty "enumerate"),
 (("list":Str),.ty "list"),
 (("int":Str),.ty "int"),
 (("str":Str),.ty "str")]
noncomputable def VS:Expr→List (V×V)
 | .Dict ks vs _=>(ks.zip vs).map fun p=>((p.1.map NV).getD .undef,NV p.2)
 |_=>[]
noncomputable def VF:Expr→List V
 | .List es _=>es.map NV
 |_=>[]
noncomputable def KS:Nat→O
 |0=>.dict (VS (SW (Bv (Yb (Bv Ly 34)) 62)))
 |1=>.dict (VS (SW (Bv (Yb (Bv Ly 34)) 63)))
 |2=>.list (VF (SW (Bv Ly 36)))
 |_=>.dead
noncomputable def S (ns:List Int):BD:={fns:=OR,cls:=JX,glob:=fun x=>Co x globL,sta:=fun n=>match n with|9=>.list (ns.map .int)|n=>KS n}
noncomputable def Qn (P:Nat→Prop):List Nat→Prop
 |[]=>True
 |i::l=>P i∧Qn P l
theorem Qn.get {P:Nat→Prop}{l:List Nat}:Qn P l→∀{i:Nat},i∈l→P i:=by
 induction l with
 |nil=>exact fun zz {zz} h=>(BH h).elim
 |cons a l ih=>exact fun h {i} m=>(AZ.mp m).elim (fun e=>e▸h.1) (ih h.2)
noncomputable def CN (K:Frag)(a:Addr):Obj:=(K.lookup a).getD {cls:=.none,dict:=none,data:=.plain,slots:= #[]}
set_option backward.match.sparseCases false in
noncomputable def bJ (K:Frag)(a:Addr):FuncData:=match (CN K a).data with| .func fd=>fd|_=>{name:="",qualname:="",params:=⟨[],[],none,[],[],none,[]⟩,body:=.stmts [],scope:=⟨.function,[],false,false,[]⟩,globals:=0,closure:=[],defaults:=.none,kwdefaults:=.none,doc:=.none,pyModule:=.none,annotations:=none,code:=.none,closureTuple:=.none,builtins:=0}
set_option backward.match.sparseCases false in
noncomputable def GA:Value→V
 | .none=>.none
 | .bool b=>.bool b
 | .int i _=>.int i
 | .str s _=>.str s
 |_=>.undef
noncomputable def Mo:V→Bool
 | .undef=>false
 |_=>true
set_option backward.match.sparseCases false in
noncomputable def HL:Value→Str
 | .str m _=>m
 |_=>""
noncomputable def aI:Value→Bool
 | .str _ _=>true
 |_=>false
theorem NQ {v:Value}(h:aI v=true):∃t,v= .str (HL v) t:=by
 rcases v with _|_<;>first|exact(AS h).elim|exact⟨_,rfl⟩
theorem Oe {θ:Tp}{k:Kn}{v:Value}(h:Mo (GA v)=true):Ag θ k (GA v) v:=by
 rcases v with _|_<;>first|exact(AS h).elim|exact rfl|exact⟨_,rfl⟩
theorem JW {θ:Tp}{k:Kn}:∀{vs:List Value},(vs.all fun v=>Mo (GA v))=true→Ap θ k (vs.map GA) vs
 |[],_=>rfl
 |_::_,h=>⟨_,_,Oe (AP.mp h).1,JW (AP.mp h).2,rfl⟩
noncomputable def V5 (d:C8):Bool:=aI d.key&&Mo (GA d.val)
noncomputable def Np:V→Str
 | .str n=>n
 |_=>""
theorem VH {θ:Tp}{k:Kn}:∀{ds:List C8},ds.all V5=true→Kv V.str θ k (ds.map fun d=>(GA d.key,GA d.val)) (ds.map fun d=>(HL d.key,d.val))
 |[],_=>rfl
 |d::_,h=>⟨HL d.key,d.val,_,AA (NQ (AP.mp (AP.mp h).1).1) fun t e=>by
   show GA d.key=_
   rw[e];rfl,Oe (AP.mp (AP.mp h).1).2,VH (AP.mp h).2,rfl⟩
theorem Rs {prog:C0}{w:World}{d:C8}(h:V5 d=true):(Db prog w).is (HL d.key) d.key=true:=by
 refine Do (NQ (AP.mp h).1) fun t e=>?_
 rw[e]
 show(HL d.key==HL d.key)=true
 exact beq_self_eq_true _
theorem O3 {prog:C0}{w:World}:∀{ds:List C8},ds.all V5=true→Pairs (Db prog w) ds (ds.map fun d=>(HL d.key,d.val))
 |[],_=>.nil
 |_::_,h=>.cons (Rs (AP.mp h).1) rfl (O3 (AP.mp h).2)
set_option backward.match.sparseCases false in
noncomputable def aF (o:Obj):Nat:=match o.data with| .seq _ n=>n| .dict _ n=>n|_=>0
set_option backward.match.sparseCases false in
noncomputable def JT (o:Obj):List C8:=match o.data with| .dict es _=>es.toList|_=>[]
noncomputable def Ip:List Nat:=[0,1,2,3,4,5,6,7,8,9,10,11,12,13,15,16,17,18,19,20,21,22,23,24,25,26,27,28,29,30,31,32,33,34,35,36,37,38,39,40,41,42,43,44,45,46,47]
noncomputable def Eb (f:Nat):Addr:=([35,85,130,144,152,160,168,175,182,189,210,275,496,527,550,573,580,587,594,601,608,615,622,629,636,643,727,790,797,804,839,825,832,867,979,989,996,1003,1045,1058,1065,1072,1079,1086,1093,1098,1103,1108]:List Nat).getD f 1108
noncomputable def CI (k:Nat):Addr:=([53,278,290,302,326,410,499,530,1048,511]:List Nat).getD k 53
noncomputable def En (a:Addr):Nat→Addr
 |0=>980
 |1=>982
 |2=>1051
 |_=>a
noncomputable def th (w:World)(K:Frag)(p:C0)(base:Heap)(ns:List Int)(a:Addr)(loose:List Str)(mg mb:Str→Option Value):Tp:=
 {prog:=PySem.Challenge.rw_te0006_01.row.prog,w,base,K,S:=S ns,af:=Eb,ac:=CI,as:=En a,p,loose,mg,mb}
noncomputable def CX (K:Frag)(f:Nat):FuncData:=bJ K (Eb f)
noncomputable abbrev cB (K:Frag)(f:Nat):Prop:=
 K.lookup (Eb f)=some ⟨(CN K (Eb f)).cls,(CN K (Eb f)).dict,.func (fnX (CX K f).name (CX K f).qualname (CX K f).params (fnN f).body (fnN f).scope [] (CX K f).defaults (CX K f).kwdefaults (CX K f).doc (CX K f).pyModule (CX K f).annotations (CX K f).code (CX K f).closureTuple),(CN K (Eb f)).slots⟩
set_option backward.match.sparseCases false in
noncomputable def aS (K:Frag):Value→Option (List V)
 | .none=>some []
 | .ref T=>(K.lookup T).bind fun ob=>match ob.data with
  | .seq vs _=>bif vs.toList.all fun v=>Mo (GA v) then some (vs.toList.map GA) else none
  |_=>none
 |_=>none
noncomputable def fnB (K:Frag)(f:Nat):Bool:=
 codeIn K (CX K f).code (CX K f).qualname&&(CX K f).params.posonlyargs.isEmpty&&(CX K f).params.kwonlyargs.isEmpty&&(CX K f).params.vararg.isNone&&(CX K f).params.kwarg.isNone&&decide ((CX K f).params.args.map (·.arg)=(fnN f).params)
set_option backward.match.sparseCases false in
noncomputable def aP (f:Nat):Bool:=
 decide (fnN f).params.Nodup&&decide ((fnN f).scope.names.map (·.1)).Nodup&& !((fnN f).scope.names.map (·.1)).contains ("__debug__":Str)&& !(fnN f).scope.isCoroutine&& !(fnN f).scope.isGenerator&&(match (fnN f).scope.kind with| .function=>true|_=>false)&&
 (fnN f).params.all fun p=>(fnN f).scope.names.any fun q=>decide (q.1=p)&&(match q.2 with| .local=>true| .cell=>true|_=>false)
theorem WY:(Ft 48).all aP=true:=by kernel_rfl
noncomputable def clsN (k:Nat):Fz:=(JX k).getD UV
noncomputable def Ke (k:Nat):Bool:=match (clsN k).kind with
 | .exc=>true
 |_=>false
noncomputable def Y2 (K:Frag)(k:Nat)(n:Str):Bool:=bif Ke k then(findIn K (.ref (CI k)) "__getattribute__"==some (some (.builtin "BaseException.__getattribute__")))&&(findIn K (.ref (CI k)) "__getattr__"==some none)&&Gw K (CI k) else plainGet K (CI k) n
noncomputable def KB (K:Frag)(k:Nat)(n:Str):CA→Bool
 | .free=>Y2 K k n&&Eu K (CI k)&&(takerIn K (CI k) n==some none)&&(match findIn K (.ref (CI k)) n with|some attr=>noGet K attr|none=>false)
 | .fn f=>plainGet K (CI k) n&&(findIn K (.ref (CI k)) n==some (some (.ref (Eb f))))&&isFn K (.ref (Eb f))
 | .sta m=>plainGet K (CI k) n&&Eu K (CI k)&&(findIn K (.ref (CI k)) n==some (some (.ref (En 0 m))))&&(specialIn K (.ref (En 0 m)) "__get__"==some none)&& !copiedNames.contains n&&decide (m<2)
noncomputable def K3 (K:Frag)(k:Nat):Bool:=bif Ke k then Gx K (CI k) else plainOver K (CI k)&&plainGet K (CI k) "__class__"&&Eu K (CI k)&&(findIn K (.ref (CI k)) "__class__"==some (some (.builtin "object.__class__")))&&(mroIn K (CI k) (.type "object")==some true)&&makesIn K (CI k)
noncomputable def UU (K:Frag)(k:Nat):Bool:=
 (clsN k).attrs.all (fun p=>KB K k p.1 p.2)&&(findIn K (.ref (CI k)) "__setattr__"==some (some (.builtin "object.__setattr__")))&&
 isIn K (.ref (CI k)) (CI k)&&K3 K k&&
 (findIn K (.ref (CI k)) "__init__"==some (some (.ref (Eb (clsN k).init))))&&(typeIn K (.ref (Eb (clsN k).init))==some (.type "function"))&&keepIn K (.ref (CI k))
noncomputable def ay (K:Frag)(j:Nat):Bool:=(Ft 10).all fun k=>j==k||kin_not K (CI j) (CI k)
set_option backward.match.sparseCases false in
noncomputable def U2:V→Bool
 | .bi _=>true
 | .ty _=>true
 |_=>false
set_option backward.match.sparseCases false in
noncomputable def Vc:V→Option Value
 | .fn f=>some (.ref (Eb f))
 | .cls k=>some (.ref (CI k))
 | .bi id=>some (.builtin id)
 | .ty id=>some (.type id)
 | .sta n=>bif Nat.blt n 3 then some (.ref (En 0 n)) else none
 |_=>none
noncomputable def aN (K:Frag)(q:Str×V):Bool:=bif U2 q.2 then nsIn K Cn q.1==some none else(Vc q.2).isSome&&(nsIn K Cn q.1==some (Vc q.2))
noncomputable def bz (q:Str×V):Prop:=U2 q.2=false∨∃u,Vc q.2=some u∧bootBuiltins q.1=some u∧q.1≠"__name__"
noncomputable def Ki (K:Frag):Addr:=match (CX K 14).code with| .ref a=>a|_=>0
noncomputable def Sf (K:Frag):Addr:=((CX K 14).closure.head?.map (·.2)).getD 0
noncomputable def Uq (K:Frag):Array Value:=match (CN K (Ki K)).data with| .fields vs=>vs|_=> #[]
noncomputable def LL (K:Frag):Str×Tok:=match ((Uq K)[2]?:Option Value) with|some (.str f t)=>(f,t)|_=>("",0)
set_option backward.match.sparseCases false in
noncomputable def YZ (K:Frag):ClassData:=match (CN K (CI 8)).data with| .cls cd=>cd|_=>default
noncomputable def MJ:Pos×Pos×Pos×Pos×Pos×Pos:=(⟨239,8,239,13⟩,⟨239,8,239,15⟩,⟨239,8,239,24⟩,⟨239,25,239,31⟩,⟨239,8,239,32⟩,⟨239,8,239,32⟩)
noncomputable def supD (K:Frag):Om:=
 {oc:=(CN K (Eb 14)).cls,od:=(CN K (Eb 14)).dict,osl:=(CN K (Eb 14)).slots,name:=(CX K 14).name,qual:=(CX K 14).qualname,params:=(CX K 14).params,dV:=(CX K 14).defaults,kV:=(CX K 14).kwdefaults,doc:=(CX K 14).doc,pm:=(CX K 14).pyModule,an:=(CX K 14).annotations,cdv:=(CX K 14).code,ct:=(CX K 14).closureTuple
  cda:=Ki K,cc:=Sf K,ps:="self",px:="stream",ar:=((CX K 14).params.args.head?).getD ⟨"",none,default⟩,rest:=(C9 14).drop 1,p0:=MJ.1,p1:=MJ.2.1,p2:=MJ.2.2.1,p3:=MJ.2.2.2.1,p4:=MJ.2.2.2.2.1,p5:=MJ.2.2.2.2.2
  ccl:=(CN K (Ki K)).cls,cdd:=(CN K (Ki K)).dict,vs:=Uq K,ccs:=(CN K (Ki K)).slots,file:=(LL K).1,tf:=(LL K).2,cl:=(CN K (Sf K)).cls,cld:=(CN K (Sf K)).dict,csl:=(CN K (Sf K)).slots,D:=CI 8,cdD:=YZ K}
structure bU (K:Frag):Prop where
 look:K.lookup (Eb 14)=some ⟨(supD K).oc,(supD K).od,.func ((supD K).fd (fnN 14)),(supD K).osl⟩
 code:codeIn K (.ref (Ki K)) (CX K 14).qualname=true
 po:(CX K 14).params.posonlyargs=[]
 as:(CX K 14).params.args.map (·.arg)=(fnN 14).params
 ko:(CX K 14).params.kwonlyargs=[]
 va:(CX K 14).params.vararg=none
 ka:(CX K 14).params.kwarg=none
 dV:(CX K 14).defaults= .none
 ar:(CX K 14).params.args.head? =some (supD K).ar
 arg:(supD K).ar.arg="self"
 cda:K.lookup (Ki K)=some ⟨(supD K).ccl,(supD K).cdd,.fields (Uq K),(supD K).ccs⟩
 vs:(Uq K)[2]? =some (.str (LL K).1 (LL K).2)
 file:((PySem.Challenge.rw_te0006_01.row.prog.main.file:Str)==(LL K).1)=true
 cc:K.lookup (Sf K)=some ⟨(supD K).cl,(supD K).cld,.cell (some (.ref (CI 8))),(supD K).csl⟩
 D:clsIn K (CI 8)=some (YZ K)
 mro:mroIn K (CI 8) (.ref (CI 8))=some true
 sup:ks_superIn K (CI 8) (CI 8) "__init__"=some (some (.ref (Eb 3)))
 nosup:nsIn K Cn "super"=some none
 third:nsIn K cStatics "thirdparty.any"=some none
 ty:typeIn K (.ref (Eb 3))=some (.type "function")
 fng:fnIn K (Eb 3)=true
noncomputable def OU (n:Nat):List (V×V):=match KS n with| .dict es=>es|_=>[]
structure Ui (w:World)(K:Frag)(n:Nat):Prop where
 look:K.lookup (En 0 n)=some ⟨.type "dict",none,.dict (JT (CN K (En 0 n))).toArray (aF (CN K (En 0 n))), #[]⟩
 rows:OU n=(JT (CN K (En 0 n))).map fun d=>(GA d.key,GA d.val)
 ok:(JT (CN K (En 0 n))).all V5=true
 hash:(JT (CN K (En 0 n))).map (·.hash)=(OU n).map fun p=>hashStr w (Np p.1)
noncomputable def Zx (n:Nat):List V:=match KS n with| .list xs=>xs|_=>[]
set_option backward.match.sparseCases false in
noncomputable def Sv (o:Obj):List Value:=match o.data with| .seq vs _=>vs.toList|_=>[]
structure Yl (K:Frag)(n:Nat):Prop where
 look:K.lookup (En 0 n)=some ⟨.type "list",none,.seq (Sv (CN K (En 0 n))).toArray (aF (CN K (En 0 n))), #[]⟩
 rows:Zx n=(Sv (CN K (En 0 n))).map GA
 ok:((Sv (CN K (En 0 n))).all fun v=>Mo (GA v))=true
structure IE (w:World)(K:Frag):Prop where
 fnE:Qn (cB K) Ip
 fnB:Ip.all (fnB K)=true
 dfs:Ip.map (fun f=>aS K (CX K f).defaults)=Ip.map fun f=>some (fnN f).dflts
 keep:(Ft 48).all (fun f=>keepIn K (.ref (Eb f)))=true
 cls:(Ft 10).all (UU K)=true
 nots:(Ft 10).all (ay K)=true
 get:specialIn K (.builtin "object.__class__") "__get__"=some (some (.builtin "getset_descriptor.__get__"))
 takes:takesIn K (.builtin "object.__class__")=some true
 gl:globL.all (aN K)=true
 sup:bU K
 st0:Ui w K 0
 st1:Ui w K 1
 st2:Yl K 2
theorem PZ {k:Nat}{fn:Fn}(h:OR k=some fn):k<48:=by
 refine Nat.lt_of_not_le fun hk=>?_
 unfold OR at h
 rw[Cc (show Rb.length≤k from hk)] at h
 cases h
theorem SI {k:Nat}{fn:Fn}(h:OR k=some fn):fn=fnN k:=by
 unfold fnN
 rw[h];rfl
theorem H0 {k:Nat}{q:Fz}(h:JX k=some q):k<10:=by
 refine Nat.lt_of_not_le fun hk=>?_
 unfold JX at h
 rw[Cc (show([UV,YV,YU,YT,YS,YR,YQ,YP,YO,YN]:List Fz).length≤k from hk)] at h
 cases h
theorem MS {k:Nat}{q:Fz}(h:JX k=some q):q=clsN k:=by
 unfold clsN
 rw[h];rfl
theorem T7:(Ip.all fun k=>(fnN k).sup.isNone)=true:=by kernel_rfl
theorem R7:(fnN 14).sup=some (3,8):=by kernel_rfl
theorem S0 {f:Nat}(h:f<48)(h':f≠14):f∈Ip:=by
 have q:((Ft 48).all fun f=>f==14||Ip.contains f)=true:=by decide+kernel
 have:=B1.mp q f (Dg.mpr h)
 rw[Du] at this
 rcases this with e|e
 ·exact absurd (eq_of_beq e) h'
 ·exact Ds.mp e
section
variable {w:World}{K:Frag}{p:C0}{base:Heap}{ns:List Int}{a:Addr}{loose:List Str}{mg mb:Str→Option Value}
theorem SX {θ:Tp}{d:Value}{xs:List V}(h:aS θ.K d=some xs):(d= .none∧xs=[])∨∃(T:Addr) (ob:Obj) (n:Nat) (vs:List Value),d= .ref T∧θ.K.lookup T=some ob∧ob.data= .seq (AE vs) n∧Ap θ ⟨[],[]⟩ xs vs:=by
 rcases d with _|_|_|_|_|_|_|_|_|_|⟨T⟩<;>first|exact AU h|skip
 ·exact .inl ⟨rfl,(AG h).symm⟩
 ·
  refine AR (Af.mp h) fun ob hob h=>?_
  obtain⟨oc,od,dat,osl⟩:=ob
  rcases dat with _|_|⟨vs,n⟩|_<;>first|exact AU h|skip
  cases z:vs.toList.all fun v=>Mo (GA v) with
  |false=>
   have h:(bif vs.toList.all fun v=>Mo (GA v) then some (vs.toList.map GA) else none)=some xs:=h
   rw[z] at h;exact AU h
  |true=>
   have h:(bif vs.toList.all fun v=>Mo (GA v) then some (vs.toList.map GA) else none)=some xs:=h
   rw[z] at h
   exact .inr ⟨T,_,n,vs.toList,rfl,hob,rfl,AG h▸JW z⟩
theorem WZ (C:IE w K){f:Nat}(hf:f<48)(h':f≠14):Ul (th w K p base ns a loose mg mb) f (fnN f):=by
 have hi:=S0 hf h'
 have h1:=C.fnE.get hi
 have h2:=B1.mp C.fnB f hi
 have h3:=B1.mp WY f (Dg.mpr hf)
 have h4:=B1.mp C.keep f (Dg.mpr hf)
 unfold fnB at h2
 unfold aP at h3
 simp only[BV,decide_eq_true_eq,Ee,Option.isNone_iff_eq_none,CP] at h2 h3
 obtain⟨⟨⟨⟨⟨a1,a2⟩,a3⟩,a4⟩,a5⟩,a6⟩:=h2
 have a7:=List.map_inj_left.mp C.dfs f hi
 obtain⟨⟨⟨⟨⟨⟨b1,b2⟩,b3⟩,b4⟩,b5⟩,b6⟩,b7⟩:=h3
 refine⟨⟨⟨(CN K (Eb f)).cls,(CN K (Eb f)).dict,(CN K (Eb f)).slots,(CX K f).name,(CX K f).qualname,(CX K f).params,(CX K f).defaults,(CX K f).kwdefaults,(CX K f).doc,(CX K f).pyModule,(CX K f).annotations,(CX K f).code,(CX K f).closureTuple⟩,h1,a1,a2,a6,a3,a4,a5,SX a7⟩,h4,b1,b2,fun p hp=>?_,fun h=>?_,b4,b5,?_⟩
 ·have:=B1.mp b7 p hp
  refine AR (List.any_eq_true.mp this) fun q hq e=>?_
  rw[BV,decide_eq_true_eq] at e
  obtain⟨x,k⟩:=q
  obtain⟨e1,e2⟩:=e
  have e1:x=p:=e1
  subst e1
  rcases k with _|_<;>first|exact .inl hq|exact .inr hq|cases e2
 ·rw[Ds.mpr h] at b3;cases b3
 ·cases hk:(fnN f).scope.kind<;>rw[hk] at b6<;>first|rfl|cases b6
theorem UT (C:IE w K){k:Nat}(hk:k<10):UU K k=true:=B1.mp C.cls k (Dg.mpr hk)
theorem LN {k:Nat}{q:Fz}(h:JX k=some q):Ct (S ns) k=Ke k:=by
 have e:(S ns).cls k=some q:=h
 unfold Ct Ke
 rw[e,←MS h]
 try rfl
theorem Wn {k:Nat}{n:Str}{ca:CA}{q:Fz}(hq:JX k=some q)(h:KB K k n ca=true):Ss (th w K p base ns a loose mg mb) k n ca:=by
 cases ca with
 |free=>
  unfold KB at h
  simp only[BV,beq_iff_eq] at h
  obtain⟨⟨⟨h1,h2⟩,h3⟩,h4⟩:=h
  refine⟨?_,h2,h3,?_⟩
  ·have e:=LN (ns:=ns) hq
   unfold Y2 at h1
   rcases z:Ke k with _|_
   ·rw[z] at h1 e;exact .inl ⟨e,h1⟩
   ·
    rw[z] at h1 e
    have h1:(_&&_&&_)=true:=h1
    simp only[BV,beq_iff_eq] at h1
    exact .inr ⟨e,h1.1.1,h1.1.2,h1.2⟩
  ·show ∃attr,findIn K (.ref (CI k)) n=some attr∧noGet K attr=true
   rcases e:findIn K (.ref (CI k)) n with _|attr
   ·rw[e] at h4;cases h4
   ·rw[e] at h4;exact⟨attr,rfl,h4⟩
 |fn f=>
  unfold KB at h
  simp only[BV,beq_iff_eq] at h
  exact⟨h.1.1,h.1.2,h.2⟩
 |sta m=>
  unfold KB at h
  simp only[BV,beq_iff_eq,Ee,decide_eq_true_eq] at h
  obtain⟨⟨⟨⟨⟨h1,h2⟩,h3⟩,h4⟩,h5⟩,h6⟩:=h
  rcases m with _|m
  ·exact⟨h1,h2,h3,h4,h5⟩
  rcases m with _|m
  ·exact⟨h1,h2,h3,h4,h5⟩
  exact(Nat.not_lt_zero _ (Dk (Dk h6))).elim
structure ba (K:Frag)(k:Nat):Prop where
 attr:∀q∈(clsN k).attrs,KB K k q.1 q.2=true
 set:findIn K (.ref (CI k)) "__setattr__"=some (some (.builtin "object.__setattr__"))
 isin:isIn K (.ref (CI k)) (CI k)=true
 kind:K3 K k=true
 init:findIn K (.ref (CI k)) "__init__"=some (some (.ref (Eb (clsN k).init)))
 ty:typeIn K (.ref (Eb (clsN k).init))=some (.type "function")
 keep:keepIn K (.ref (CI k))=true
theorem Kh (C:IE w K){k:Nat}(hk:k<10):ba K k:=by
 have h3:=UT C hk
 unfold UU at h3
 simp only[BV,beq_iff_eq] at h3
 obtain⟨⟨⟨⟨⟨⟨a1,a2⟩,a3⟩,a4⟩,a5⟩,a6⟩,a7⟩:=h3
 exact⟨B1.mp a1,a2,a3,a4,a5,a6,a7⟩
theorem KW {k:Nat}(h:K3 K k=true)(z:Ke k=false):plainOver K (CI k)=true∧plainGet K (CI k) "__class__"=true∧Eu K (CI k)=true∧findIn K (.ref (CI k)) "__class__"=some (some (.builtin "object.__class__"))∧mroIn K (CI k) (.type "object")=some true∧makesIn K (CI k)=true:=by
 unfold K3 at h
 rw[z] at h
 have h:(_&&_&&_&&_&&_&&_)=true:=h
 simp only[BV,beq_iff_eq] at h
 exact⟨h.1.1.1.1.1,h.1.1.1.1.2,h.1.1.1.2,h.1.1.2,h.1.2,h.2⟩
theorem Wb {k:Nat}(h:K3 K k=true)(z:Ke k=true):Gx K (CI k)=true:=by
 unfold K3 at h
 rw[z] at h
 exact h
theorem Zo (C:IE w K):KG (th w K p base ns a loose mg mb):=by
 refine⟨fun k n ca e=>?_,fun k q e=>?_⟩
 ·unfold Ez at e
  rcases hq:(th w K p base ns a loose mg mb).S.cls k with _|q
  ·rw[hq] at e;cases e
  ·
   have hN:=MS hq
   rw[hq] at e
   have e:(q.attrs.find? fun r=>r.1=n).map (·.2)=some ca:=e
   obtain⟨p',hp,rfl⟩:=Ar.mp e
   have h1:=List.mem_of_find?_eq_some hp
   have h2:=List.find?_some hp
   have h2:p'.1=n:=of_decide_eq_true h2
   subst h2
   rw[hN] at h1
   exact Wn hq ((Kh C (H0 hq)).attr p' h1)
 ·have D:=Kh C (H0 e)
  exact⟨D.set,fun z=>(KW D.kind ((LN (ns:=ns) e).symm.trans z)).1⟩
theorem ZW (C:IE w K):Nc (th w K p base ns a loose mg mb):=by
 refine⟨fun k q h=>(Kh C (H0 h)).isin,fun j k hjk hj hk=>?_,fun j q h z=>?_,C.get,C.takes⟩
 ·refine Do (Bw.mp hj) fun q hq=>?_
  refine Do (Bw.mp hk) fun q' hq'=>?_
  have:=B1.mp C.nots j (Dg.mpr (H0 hq))
  have:=B1.mp this k (Dg.mpr (H0 hq'))
  rw[Du] at this
  rcases this with e|e
  ·exact absurd (eq_of_beq e) hjk
  ·exact e
 ·have q:=KW (Kh C (H0 h)).kind ((LN (ns:=ns) h).symm.trans z)
  exact⟨q.2.1,q.2.2.1,q.2.2.2.1,q.2.2.2.2.1⟩
theorem Yg {f:Nat}(h:48≤f):Eb f=Eb 47:=by
 unfold Eb
 rw[C3,Cc h];rfl
theorem Yh {k:Nat}(h:10≤k):CI k=CI 0:=by
 unfold CI
 rw[C3,Cc h];rfl
theorem WP (C:IE w K)(f:Nat):keepIn K (.ref (Eb f))=true:=by
 by_cases h:f<48
 ·exact B1.mp C.keep f (Dg.mpr h)
 ·rw[Yg (Nat.le_of_not_lt h)]
  exact B1.mp C.keep 47 (Dg.mpr (by decide))
theorem Ty (C:IE w K)(k:Nat):keepIn K (.ref (CI k))=true:=by
 by_cases h:k<10
 ·exact(Kh C h).keep
 ·rw[Yh (Nat.le_of_not_lt h)]
  exact(Kh C (k:=0) (by decide)).keep
theorem WL (C:IE w K)(k:Nat)(q:Fz)(h:JX k=some q):Ll (th w K p base ns a loose mg mb) k q:=by
 have D:=Kh C (H0 h)
 have e:=LN (ns:=ns) h
 have hN:=MS h
 subst hN
 exact⟨fun z=>(KW D.kind (e.symm.trans z)).2.2.2.2.2,fun z=>Wb D.kind (e.symm.trans z),D.init,D.ty,D.keep⟩
theorem Nr (C:Ui w K n)(X:K.In base)(hs:En a n=En 0 n)(hn:((OU n).map fun p=>Np p.1).Nodup)(he:(OU n).isEmpty=false)(hm:(En 0 n==Cp)=false):
  ∃kvs,Kv V.str (th w K p base ns a loose mg mb) ⟨[],[]⟩ (OU n) kvs∧base.DictOf (PySem.strKind (th w K p base ns a loose mg mb).prog w) (En a n) kvs∧(En a n==Cp)=false∧(OU n).isEmpty=false:=by
 have hk:=fun d hd=>B1.mp C.ok d hd
 have e1:((JT (CN K (En 0 n))).map (fun d=>(HL d.key,d.val))).map (·.1)=(OU n).map fun p=>Np p.1:=by
  rw[C.rows,DN,DN]
  exact EL fun d hd=>AA (NQ (AP.mp (hk d hd)).1) fun t e=>by
   show HL d.key=Np (GA d.key)
   rw[e];rfl
 have e2:(JT (CN K (En 0 n))).map (·.hash)=(JT (CN K (En 0 n))).map fun d=>hashStr w (HL d.key):=by
  have:=C.hash
  rw[C.rows,DN] at this
  rw[this]
  exact EL fun d hd=>AA (NQ (AP.mp (hk d hd)).1) fun t e=>by
   show hashStr w (Np (GA d.key))=hashStr w (HL d.key)
   rw[e];rfl
 rw[hs]
 refine⟨_,C.rows▸VH C.ok,⟨_,_,_,X _ _ C.look,⟨rfl,rfl,rfl⟩,rfl,fun d hd=>?_,O3 C.ok,?_⟩,hm,he⟩
 ·have hd:d∈JT (CN K (En 0 n)):=by simpa using hd
  exact⟨HL d.key,Rs (hk d hd),List.map_inj_left.mp e2 d hd⟩
 ·rw[e1];exact hn
theorem TG {n:Nat}(C:Yl K n)(X:K.In base)(hs:En a n=En 0 n):∃vs,Ap (th w K p base ns a loose mg mb) ⟨[],[]⟩ (Zx n) vs∧base.IsList (En a n) vs.toArray:=by
 rw[hs]
 exact⟨_,C.rows▸JW C.ok,⟨_,X _ _ C.look,rfl,_,rfl⟩⟩
theorem Nt (n:Nat):(n=9∧(S ns).sta n= .list (ns.map .int))∨(S ns).sta n=KS n:=by
 by_cases h:n=9
 ·subst h;exact .inl ⟨rfl,rfl⟩
 ·refine .inr ?_
  unfold S
  show(match n with|9=>_|n=>KS n)=_
  split
  ·exact(h rfl).elim
  ·rfl
theorem M0:∀n:Nat,n=0∨n=1∨n=2∨KS n= .dead
 |0=>.inl rfl
 |1=>.inr (.inl rfl)
 |2=>.inr (.inr (.inl rfl))
 |_+3=>.inr (.inr (.inr rfl))
theorem Z5 (C:IE w K)(X:K.In base){vs:List Value}(hv:Ap (th w K p base ns a loose mg mb) ⟨[],[]⟩ (ns.map .int) vs)(hL:base.IsList a vs.toArray):Gg (th w K p base ns a loose mg mb):=by
 refine⟨fun n xs h=>?_,fun n es h=>?_,fun n es h=>?_⟩
 ·refine(Nt (ns:=ns) n).elim (fun e=>?_) fun e=>(M0 n).elim (fun z=>?_) fun z=>z.elim (fun z=>?_) fun z=>z.elim (fun z=>?_) fun z=>?_
  ·obtain⟨e1,e2⟩:=e
   subst e1
   exact AG (congrArg oL (e2.symm.trans h))▸⟨vs,hv,hL⟩
  ·subst z;exact O.noConfusion (e.symm.trans h)
  ·subst z;exact O.noConfusion (e.symm.trans h)
  ·subst z;exact AG (congrArg oL (e.symm.trans h))▸TG C.st2 X rfl
  ·exact O.noConfusion (z.symm.trans (e.symm.trans h))
 ·refine(Nt (ns:=ns) n).elim (fun e=>?_) fun e=>(M0 n).elim (fun z=>?_) fun z=>z.elim (fun z=>?_) fun z=>z.elim (fun z=>?_) fun z=>?_
  ·exact O.noConfusion (e.2.symm.trans h)
  ·subst z;exact AG (congrArg oD (e.symm.trans h))▸Nr C.st0 X rfl (by decide+kernel) rfl (by decide)
  ·subst z;exact AG (congrArg oD (e.symm.trans h))▸Nr C.st1 X rfl (by decide+kernel) rfl (by decide)
  ·subst z;exact O.noConfusion (e.symm.trans h)
  ·exact O.noConfusion (z.symm.trans (e.symm.trans h))
 ·refine(Nt (ns:=ns) n).elim (fun e=>?_) fun e=>(M0 n).elim (fun z=>?_) fun z=>z.elim (fun z=>?_) fun z=>z.elim (fun z=>?_) fun z=>?_
  ·exact O.noConfusion (e.2.symm.trans h)
  ·subst z;exact O.noConfusion (e.symm.trans h)
  ·subst z;exact O.noConfusion (e.symm.trans h)
  ·subst z;exact O.noConfusion (e.symm.trans h)
  ·exact O.noConfusion (z.symm.trans (e.symm.trans h))
theorem Zv (C:IE w K)(X:K.In base){vs:List Value}(hv:Ap (th w K p base ns a loose mg mb) ⟨[],[]⟩ (ns.map .int) vs)(hL:base.IsList a vs.toArray):EV (th w K p base ns a loose mg mb):=by
 refine⟨Z5 C X hv hL,Zo C,ZW C,fun f fn h hs=>?_,WP C,Ty C,WL C⟩
 have hf:=PZ h
 have hN:=SI h
 subst hN
 refine WZ C hf fun e=>?_
 subst e
 rw[R7] at hs
 cases hs
theorem Wy (C:IE w K):Li (th w K p base ns a loose mg mb):=by
 intro f fn g k h hs
 have hf:=PZ h
 have hN:=SI h
 subst hN
 by_cases e:f=14
 ·subst e
  rw[R7] at hs
  cases hs
  have S:=C.sup
  refine⟨supD K,S.look,S.code,S.po,S.as,S.ko,S.va,S.ka,S.dV,by kernel_rfl,S.ar,S.arg,by kernel_rfl,by kernel_rfl,S.cda,S.vs,S.file,S.cc,S.D,S.mro,S.sup,by kernel_rfl,by kernel_rfl,by decide+kernel,by decide+kernel,fun q hq=>?_,fun x hx=>?_,?_,by kernel_rfl,by kernel_rfl,by kernel_rfl,by kernel_rfl,by kernel_rfl,by kernel_rfl,by first|boot_by_name|rfl|kernel_rfl,S.nosup,S.third,S.ty,S.fng⟩
  ·have hq:q∈(["self","stream"]:List Str):=hq
   rcases AZ.mp hq with rfl|hq
   ·exact mem_of_lookup (by kernel_rfl)
   ·rw[Ac.mp hq]
    exact mem_of_lookup (by kernel_rfl)
  ·have q:((fnN 14).scope.names.all fun x=>match x.2 with| .cell=>false|_=>true)=true:=by kernel_rfl
   have:=B1.mp q x hx
   intro e
   rw[e] at this;cases this
  ·intro h
   have q:((fnN 14).scope.names.map (·.1)).contains ("__debug__":Str)=false:=by kernel_rfl
   rw[Ds.mpr h] at q;cases q
 ·have:=B1.mp T7 f (S0 hf e)
  rw[hs] at this
  cases this
theorem ME {x:Str}{v:V}:∀{l:List (Str×V)},Co x l=some v→(x,v)∈l
 |[],h=>AU h
 |q::l,h=>by
  rw[GC] at h
  by_cases e:x=q.1
  ·rw[if_pos e] at h
   rw[e,←AG h]
   exact .head _
  ·rw[if_neg e] at h
   exact .tail _ (ME h)
theorem WW:∀q∈globL,bz q:=by
 unfold globL
 repeat' first
  |exact List.forall_mem_nil _
  |refine List.forall_mem_cons.mpr ⟨?_,?_⟩
  |exact .inl rfl
  |exact .inr ⟨_,rfl,by first|boot_by_name|rfl|kernel_rfl,by decide⟩
theorem bG:(globL.all fun q=>HO q.2)=true:=by kernel_rfl
theorem Pe {v:V}{u:Value}(h:Vc v=some u):Ag (th w K p base ns a loose mg mb) ⟨[],[]⟩ v u:=by
 rcases v with _|_|_|_|_|_|_|_|_|_|_|⟨n⟩|_<;>first|exact AU h|exact(AG h).symm|skip
 rcases n with _|n
 ·exact(AG h).symm
 rcases n with _|n
 ·exact(AG h).symm
 rcases n with _|n
 ·exact(AG h).symm
 exact AU h
theorem WV (C:IE w K){x:Str}{v:V}(h:(S ns).glob x=some v):∃u,Ag (th w K p base ns a loose mg mb) ⟨[],[]⟩ v u∧(nsIn K Cn x=some (some u)∨(nsIn K Cn x=some none∧bootBuiltins x=some u∧x≠"__name__")):=by
 have hm:=ME h
 have h1:=B1.mp C.gl _ hm
 have h2:=WW _ hm
 unfold aN at h1
 cases z:U2 v with
 |true=>
  rw[z] at h1
  refine E2 (h2.resolve_left fun e=>AS (e.symm.trans z)) fun u e1 e2 e3=>?_
  exact⟨u,Pe e1,.inr ⟨eq_of_beq h1,e2,e3⟩⟩
 |false=>
  rw[z] at h1
  have h1:=AP.mp h1
  refine Do (Bw.mp h1.1) fun u e=>?_
  exact⟨u,Pe e,.inl ((eq_of_beq h1.2).trans (congrArg some e))⟩
theorem Z3 (C:IE w K){mean:ExcName→Option Value}(X:K.In base)(T:PyProof.Rows.Top p loose mean mg mb base):Top (th w K p base ns a loose mg mb):=
 ⟨X,topRead_of T,⟨mean,T⟩,T.nolimit,fun x v h=>B1.mp bG _ (ME h),fun x v h=>WV C h⟩
end
theorem Rq {θ:Tp}(AO:EV θ)(SU:Li θ)(TO:Top θ){env:Env}(hk:env.scope.kind= .function)(hgl:env.globals=Cn)(hbi:env.builtins=builtinsNs)(hcells:env.cells=[])(hfr:env.frame=some env.locals)
  (K0:Below callerA θ.base [] θ.base){s:Shared}{bx:List (Str×V)}{bv:List (Str×Value)}(F:Fr θ.base env.locals s.heap fun y=>bv.reverse.lookup y)(hb:CL θ ⟨[none],[]⟩ bx bv)(hbn:(bv.map (·.1)).Nodup)
  (hn:(env.scope.names.map (·.1)).Nodup)(hd:("__debug__":Str)∉env.scope.names.map (·.1))(hc:∀x∈env.scope.names,x.2≠ .cell){body:List Stmt}{hp:List O}{n:Nat}
  (run:Y ⟨θ.S,n⟩ (.ok (.bool true),hp) (Cy (E θ.S 40) 16 body (entry θ.S env.scope bx [.void]) (Ho fun v h=>.ret (.ok v) h) (Hv fun zz zz=>.none))){Q:Flow→Shared→Prop}{E:Value→Shared→Prop}
  (fin:∀h' tk m',Fr θ.base env.locals h' m'→Q (.ret (.bool true)) {s with heap:=h',toks:=tk}):wpAny (model θ.prog θ.w) (callerA.deeper env) (execs body env) Q E s:=by
 have G:Good ⟨⟨θ,env,θ.base,[]⟩,callerA.deeper env,[env],n⟩:=by
  refine⟨TO,hk,hgl,hbi,rfl,fun zz zz e=>e,fun h m news F N=>?_⟩
  exact(groundX (A:=callerA.deeper env) (R:=fun zz zz=>True) (s:={s with heap:=h}) K0 F N rfl hfr hk).2.1.frames
 have GD:BS ⟨⟨θ,env,θ.base,[]⟩,callerA.deeper env,[env],n⟩ 16:=⟨G,by show(callerA.units+3)+8 * 16+20≤cLine;decide,by show callerA.depth+1+2 * 16≤900;decide,fun zz=>rfl,.inr ⟨rfl,rfl⟩⟩
 have el:=Mz (env:=env) (h₀:=θ.base) (J:=[]) (os:=[.void]) (M:=[]) TO hb hbn hn hd hc ⟨none,[],[],[],rfl,rfl,⟨rfl,rfl⟩,rfl,rfl⟩
 have Z:=Z7 AO SU n
 have ZE:=PB AO Z 40
 refine FK (c:=⟨⟨θ,env,θ.base,[]⟩,callerA.deeper env,[env],n⟩) (ZE.ex _ 16 rfl rfl GD ⟨⟨[],rfl⟩,hfr⟩) body (k:=⟨[none],[]⟩) _ _ s _ _ _ Q E (BI.refl _) ⟨_,[],F,(fun p hp=>nomatch hp),Er,el.1,el.2⟩ run (fun k' fl flow st' h' tk l R hcf P=>?_) fun zz zz zz zz zz zz zz zz P=>P.elim
 rcases fl with _|_|_|⟨v⟩
 case next=>
  have P:(Except.ok V.none,st'.heap)=(Except.ok (V.bool true),hp):=P
  exact AU (congrArg Pk (Except.ok.inj (Prod.mk.inj P).1))
 case ret=>
  have P:(Except.ok v,st'.heap)=(Except.ok (V.bool true),hp):=P
  have e:v= .bool true:=Except.ok.inj (Prod.mk.inj P).1
  subst e
  exact AR hcf fun u e hu=>by
   have hu:u= .bool true:=hu
   rw[e,hu];exact fin h' tk _ R.F
 all_goals exact P.elim
theorem XJ {ns:List Int}{h':List O}(H:AN (S ns) 16 47 [.sta 9] [] [.void] (.bool true) h'):∃n,Y ⟨S ns,n⟩ (.ok (.bool true),h') (Cy (E (S ns) 40) 16 (C9 47) (entry (S ns) (fnN 47).scope [("script",.sta 9)] [.void]) (Ho fun v h=>.ret (.ok v) h) (Hv fun zz zz=>.none)):=by
 have⟨m,hm⟩:=H (fun v h=>.ret (.ok v) h) (fun zz zz=>.none) (.ok (.bool true),h') ⟨0,rfl⟩
 rcases m with _|m
 ·exact hm.elim
 ·
  refine⟨m,?_⟩
  have hm:Y ⟨S ns,m⟩ (.ok (.bool true),h') (H5 (S ns) (E (S ns) 40) 16 47 [.sta 9] [] [.void] (fun v h=>.ret (.ok v) h) (fun zz zz=>.none)):=hm
  have e:H5 (S ns) (E (S ns) 40) 16 47 [.sta 9] [] [.void] (fun v h=>.ret (.ok v) h) (fun zz zz=>.none)=Cy (E (S ns) 40) 16 (C9 47) (entry (S ns) (fnN 47).scope [("script",.sta 9)] [.void]) (Ho fun v h=>.ret (.ok v) h) (Hv fun zz zz=>.none):=by kernel_rfl
  rw[e] at hm
  exact hm
theorem QY {θ:Tp}{k:Kn}:∀{ns:List Int} {vs:List Value},IntsAre vs ns→Ap θ k (ns.map .int) vs:=by
 intro ns vs h
 induction h with
 |nil=>rfl
 |cons n t h ih=>exact .cons (.int _ _) ih
theorem b8:((fnN 47).scope.names.map (·.1)).Nodup:=by decide+kernel
theorem bK:("__debug__":Str)∉(fnN 47).scope.names.map (·.1):=by decide+kernel
theorem b9:∀x∈(fnN 47).scope.names,x.2≠ .cell:=by
 have q:((fnN 47).scope.names.all fun x=>match x.2 with| .cell=>false|_=>true)=true:=by kernel_rfl
 intro x hx e
 have:=B1.mp q x hx
 rw[e] at this;cases this
theorem Tz {w:World}{K:Frag}{p:C0}{base:Heap}{ns:List Int}{a:Addr}{loose:List Str}{mg mb:Str→Option Value}(C:IE w K){mean:ExcName→Option Value}(X:K.In base)(T:PyProof.Rows.Top p loose mean mg mb base)
  {vs:List Value}(hI:IntsAre vs ns)(hL:base.IsList a vs.toArray){h':List O}(H:AN (S ns) 16 47 [.sta 9] [] [.void] (.bool true) h')
  {env:Env}(hs:env.scope=(fnN 47).scope)(hgl:env.globals=Cn)(hbi:env.builtins=builtinsNs)(hcells:env.cells=[])(hfr:env.frame=some env.locals)
  (K0:Below callerA base [] base){s:Shared}(F:Fr base env.locals s.heap fun y=>([("script",.ref a)]:List (Str×Value)).reverse.lookup y){body:List Stmt}(hbody:body=C9 47){Q:Flow→Shared→Prop}{E:Value→Shared→Prop}
  (fin:∀h' tk m',Fr base env.locals h' m'→Q (.ret (.bool true)) {s with heap:=h',toks:=tk}):wpAny (model PySem.Challenge.rw_te0006_01.row.prog w) (callerA.deeper env) (execs body env) Q E s:=by
 have⟨n,hr⟩:=XJ H
 subst hbody
 have hv:Ap (th w K p base ns a loose mg mb) ⟨[],[]⟩ (ns.map .int) vs:=QY hI
 refine Rq (θ:=th w K p base ns a loose mg mb) (bx:=[("script",.sta 9)]) (bv:=[("script",.ref a)]) (hp:=h') (n:=n) (Zv C X hv hL) (Wy C) (Z3 C X T) ?_ hgl hbi hcells hfr K0 F ⟨_,[],rfl,rfl,rfl⟩ ?_ ?_ ?_ ?_ ?_ fin
 ·rw[hs];kernel_rfl
 ·exact C4.mpr ⟨BH,Er⟩
 ·rw[hs];exact b8
 ·rw[hs];exact bK
 ·rw[hs];exact b9
 ·rw[hs];exact hr
universe u0 u1 u2 u3
theorem c6 {α0:Sort u0}{A0:α0→Prop}{A1:α0→Prop}{A2:α0→Prop}{A3:α0→Prop}{G:Prop}(h:∃x0:α0,A0 x0∧A1 x0∧A2 x0∧A3 x0)(k:∀x0,A0 x0→A1 x0→A2 x0→A3 x0→G):G:=AA h fun x0 h=>k x0 h.1 h.2.1 h.2.2.1 h.2.2.2
theorem HD {α0:Sort u0}{α1:Sort u1}{A0:α0→α1→Prop}{A1:α0→α1→Prop}{A2:α0→α1→Prop}{A3:α0→α1→Prop}{G:Prop}(h:∃x0:α0,∃x1:α1,A0 x0 x1∧A1 x0 x1∧A2 x0 x1∧A3 x0 x1)(k:∀x0 x1,A0 x0 x1→A1 x0 x1→A2 x0 x1→A3 x0 x1→G):G:=AA h fun x0 h=>AA h fun x1 h=>k x0 x1 h.1 h.2.1 h.2.2.1 h.2.2.2
theorem c5 {α0:Sort u0}{α1:Sort u1}{α2:Sort u2}{A0:α0→α1→α2→Prop}{A1:α0→α1→α2→Prop}{G:Prop}(h:∃x0:α0,∃x1:α1,∃x2:α2,A0 x0 x1 x2∧A1 x0 x1 x2)(k:∀x0 x1 x2,A0 x0 x1 x2→A1 x0 x1 x2→G):G:=AA h fun x0 h=>AA h fun x1 h=>AA h fun x2 h=>k x0 x1 x2 h.1 h.2
theorem LQ {α0:Sort u0}{α1:Sort u1}{α2:Sort u2}{A0:α0→α1→α2→Prop}{A1:α0→α1→α2→Prop}{A2:α0→α1→α2→Prop}{A3:α0→α1→α2→Prop}{A4:α0→α1→α2→Prop}{G:Prop}(h:∃x0:α0,∃x1:α1,∃x2:α2,A0 x0 x1 x2∧A1 x0 x1 x2∧A2 x0 x1 x2∧A3 x0 x1 x2∧A4 x0 x1 x2)(k:∀x0 x1 x2,A0 x0 x1 x2→A1 x0 x1 x2→A2 x0 x1 x2→A3 x0 x1 x2→A4 x0 x1 x2→G):G:=AA h fun x0 h=>AA h fun x1 h=>AA h fun x2 h=>k x0 x1 x2 h.1 h.2.1 h.2.2.1 h.2.2.2.1 h.2.2.2.2
structure Sc where
 B:List Nat
 p:Nat
 ix:Nat
 ln:Nat
 cl:Nat
 dn:Bool
 tk:Nat
 tn:Nat
 ind:Nat
 ask:Bool
 keys:Nat
noncomputable def bh (σ:Sc):List (Str×V):=
 [("name",.str "<unicode string>"),("stream",.none),("stream_pointer",.int 0),("eof",.bool true),("buffer",.str ⟨σ.B.toArray⟩),("pointer",.int (σ.p:Int)),("raw_buffer",.none),("raw_decode",.none),("encoding",.none),("index",.int (σ.ix:Int)),("line",.int (σ.ln:Int)),("column",.int (σ.cl:Int)),("done",.bool σ.dn),("flow_level",.int 0),("tokens",.obj (σ.tk+1)),("tokens_taken",.int (σ.tn:Int)),("indent",.int (-1)),("indents",.obj (σ.ind+1)),("allow_simple_key",.bool σ.ask),("possible_simple_keys",.obj (σ.keys+1))]
noncomputable def scO (σ:Sc):O:=.inst 8 (bh σ)
theorem At {n:Nat}(h:n≤lim):BF n=true:=Nat.ble_eq_true_of_le h
theorem LG {n k:Nat}(h:k<n)(hz:n≤lim):DV (k:Int) n=some k:=by
 have hz':n≤1000000:=hz
 unfold DV
 rw[if_pos hz',if_pos (by lia),if_pos (by lia)]
 rfl
theorem Lc {B:List Nat}{k c:Nat}(h:B[k]? =some c):k<B.length:=(AI.mp h).1
set_option backward.match.sparseCases false in
noncomputable def Q9:Stmt→Expr×List Stmt×List Stmt
 | .While t b _ _=>(t,b,[])
 | .For t _ b _ _=>(t,b,[])
 | .If t b e _=>(t,b,e)
 |_=>(.Constant .none 0 default,[],[])
noncomputable def wT (s:Stmt):Expr:=(Q9 s).1
noncomputable def wB (s:Stmt):List Stmt:=(Q9 s).2.1
noncomputable def wE (s:Stmt):List Stmt:=(Q9 s).2.2
theorem an {a b:Prop}(x:a)(y:b):a∧b:=⟨x,y⟩
theorem SY (t:Str)(c:Nat):BL t ⟨#[c]⟩=decide (c∈t.cps.toList):=by
 have h:=StrLaws.found_iff t ⟨#[c]⟩
 have h2:(∃i,i+(⟨#[c]⟩:Str).length≤t.length∧DI.Str.subAt t ⟨#[c]⟩ i=true)↔c∈t.cps.toList:=by
  constructor
  ·rintro⟨i,hi⟩
   exact List.mem_of_getElem? ((StrLaws.subAt_one t c i).mp hi)
  ·intro hm
   refine Do (List.getElem?_of_mem hm) fun i hi=>?_
   exact⟨i,(StrLaws.subAt_one t c i).mpr hi⟩
 show(!(DI.Str.occurrences t ⟨#[c]⟩ 0 t.length 1).isEmpty)=_
 rw[Bool.eq_iff_iff,h,h2,decide_eq_true_eq]
theorem Rz (t:String)(c:Nat){L:List Nat}(h:t.toList.map Gk=L):BL (A8 t) ⟨#[c]⟩=decide (c∈L):=by
 rw[SY,signs_ofString,h]
theorem Im {t:String}{c:Nat}{L:List Nat}(h:t.toList.map Gk=L)(m:c∈L):BL (A8 t) ⟨#[c]⟩=true:=(Rz t c h).trans (decide_eq_true m)
theorem Io {t:String}{c:Nat}{L:List Nat}(h:t.toList.map Gk=L)(m:c∉L):BL (A8 t) ⟨#[c]⟩=false:=(Rz t c h).trans (decide_eq_false m)
theorem FA {a b:Str}:a=b↔a.cps.toList=b.cps.toList:=by
 constructor
 ·exact fun h=>by rw[h]
 ·intro h
  obtain⟨a⟩:=a
  obtain⟨b⟩:=b
  have h:a.toList=b.toList:=h
  rw[Array.toList_inj.mp h]
theorem HY {t:String}{c k:Nat}(h:t.toList.map Gk=[k])(n:c≠k):decide ((⟨#[c]⟩:Str)=A8 t)=false:=
 decide_eq_false fun e=>by rw[FA,signs_ofString,h] at e;exact n (Bj e).1
theorem Ju {t:String}{l L:List Nat}(h:t.toList.map Gk=L)(n:l≠L):decide ((⟨l.toArray⟩:Str)=A8 t)=false:=
 decide_eq_false fun e=>by rw[FA,signs_ofString,h] at e;exact n e
theorem NN {t:String}{l L:List Nat}(h:t.toList.map Gk=L)(n:l=L):decide ((⟨l.toArray⟩:Str)=A8 t)=true:=
 decide_eq_true (by rw[FA,signs_ofString,h];exact n)
theorem ZL {c:Nat}(h:c∈[10,133,8232,8233]):BL (A8 "\n\u0085\u2028\u2029") ⟨#[c]⟩=true:=Im (by decide) h
theorem ZM {c:Nat}(h:c∉[10,133,8232,8233]):BL (A8 "\n\u0085\u2028\u2029") ⟨#[c]⟩=false:=Io (by decide) h
theorem Zm {c:Nat}(h:c∈[13,10,133]):BL (A8 "\u000d\n\u0085") ⟨#[c]⟩=true:=Im (by decide) h
theorem VV {c:Nat}(h:c∉[13,10,133]):BL (A8 "\u000d\n\u0085") ⟨#[c]⟩=false:=Io (by decide) h
theorem Yv {c:Nat}(h:c∈[8232,8233]):BL (A8 "\u2028\u2029") ⟨#[c]⟩=true:=Im (by decide) h
theorem Yw {c:Nat}(h:c∉[8232,8233]):BL (A8 "\u2028\u2029") ⟨#[c]⟩=false:=Io (by decide) h
theorem GG {c:Nat}(h:c∈[13,10,133,8232,8233]):BL (A8 "\u000d\n\u0085\u2028\u2029") ⟨#[c]⟩=true:=Im (by decide) h
theorem LZ {c:Nat}(h:c∉[13,10,133,8232,8233]):BL (A8 "\u000d\n\u0085\u2028\u2029") ⟨#[c]⟩=false:=Io (by decide) h
theorem Qo {c:Nat}(h:c∈[0,32,9,13,10,133,8232,8233]):BL (A8 "\u0000 \t\u000d\n\u0085\u2028\u2029") ⟨#[c]⟩=true:=Im (by decide) h
theorem IL {c:Nat}(h:c∉[0,32,9,13,10,133,8232,8233]):BL (A8 "\u0000 \t\u000d\n\u0085\u2028\u2029") ⟨#[c]⟩=false:=Io (by decide) h
theorem X4 {c:Nat}(h:c∈[39,34,92,0,32,9,13,10,133,8232,8233]):BL (A8 "'\"\\\u0000 \t\u000d\n\u0085\u2028\u2029") ⟨#[c]⟩=true:=Im (by decide) h
theorem X5 {c:Nat}(h:c∉[39,34,92,0,32,9,13,10,133,8232,8233]):BL (A8 "'\"\\\u0000 \t\u000d\n\u0085\u2028\u2029") ⟨#[c]⟩=false:=Io (by decide) h
theorem VY {c:Nat}(h:c∈[32,9]):BL (A8 " \t") ⟨#[c]⟩=true:=Im (by decide) h
theorem VZ {c:Nat}(h:c∉[32,9]):BL (A8 " \t") ⟨#[c]⟩=false:=Io (by decide) h
theorem VN {c:Nat}(h:c∈[48,49,50,51,52,53,54,55,56,57,65,66,67,68,69,70,97,98,99,100,101,102]):BL (A8 "0123456789ABCDEFabcdef") ⟨#[c]⟩=true:=Im (by decide) h
theorem ZZ {c:Nat}(h:c∉[48,49,50,51,52,53,54,55,56,57,65,66,67,68,69,70,97,98,99,100,101,102]):BL (A8 "0123456789ABCDEFabcdef") ⟨#[c]⟩=false:=Io (by decide) h
theorem Uz {c:Nat}(h:c∈[9,10,13,133]):BL (A8 "\t\n\u000d\u0085") ⟨#[c]⟩=true:=Im (by decide) h
theorem NK {c:Nat}(h:c∉[9,10,13,133]):BL (A8 "\t\n\u000d\u0085") ⟨#[c]⟩=false:=Io (by decide) h
theorem HP:decide ((⟨#[13]⟩:Str)=A8 "\u000d")=true:=by decide+kernel
theorem bL {c:Nat}(h:c≠13):decide ((⟨#[c]⟩:Str)=A8 "\u000d")=false:=HY (by decide) h
theorem az {c:Nat}(h:c≠10):decide ((⟨#[c]⟩:Str)=A8 "\n")=false:=HY (by decide) h
theorem VX {c:Nat}(h:c≠65279):decide ((⟨#[c]⟩:Str)=A8 "\ufeff")=false:=HY (by decide) h
theorem QV {c:Nat}(h:c≠34):decide ((⟨#[c]⟩:Str)=A8 "\"")=false:=HY (by decide) h
theorem ad {c:Nat}(h:c≠39):decide ((⟨#[c]⟩:Str)=A8 "'")=false:=HY (by decide) h
theorem Ua {c:Nat}(h:c≠92):decide ((⟨#[c]⟩:Str)=A8 "\\")=false:=HY (by decide) h
theorem L7 {c:Nat}(h:c≠0):decide ((⟨#[c]⟩:Str)=A8 "\u0000")=false:=HY (by decide) h
theorem ae:decide ((⟨#[32]⟩:Str)=A8 " ")=true:=by decide+kernel
theorem ag {c:Nat}(h:c≠32):decide ((⟨#[c]⟩:Str)=A8 " ")=false:=HY (by decide) h
theorem Xy {c:Nat}(h:c≠35):decide ((⟨#[c]⟩:Str)=A8 "#")=false:=HY (by decide) h
theorem YL {l:List Nat}(n:l=[13,10]):decide ((⟨l.toArray⟩:Str)=A8 "\u000d\n")=true:=NN (by decide) n
theorem LW {l:List Nat}(n:l≠[13,10]):decide ((⟨l.toArray⟩:Str)=A8 "\u000d\n")=false:=Ju (by decide) n
theorem K6 {l:List Nat}(n:l=[45,45,45]):decide ((⟨l.toArray⟩:Str)=A8 "---")=true:=NN (by decide) n
theorem Gz {l:List Nat}(n:l≠[45,45,45]):decide ((⟨l.toArray⟩:Str)=A8 "---")=false:=Ju (by decide) n
theorem LS {l:List Nat}(n:l=[46,46,46]):decide ((⟨l.toArray⟩:Str)=A8 "...")=true:=NN (by decide) n
theorem OZ {l:List Nat}(n:l≠[46,46,46]):decide ((⟨l.toArray⟩:Str)=A8 "...")=false:=Ju (by decide) n
theorem Qy {B:List Nat}{k c:Nat}(h:B[k]? =some c):B.toArray[k]? =some c:=List.getElem?_toArray.trans h
theorem QK {a b:Nat}(h:a≤b):decide ((a:Int)≤(b:Int))=true:=decide_eq_true (Int.ofNat_le.mpr h)
theorem QL {a b:Nat}(h:b<a):decide ((a:Int)≤(b:Int))=false:=decide_eq_false fun z=>Gh.mpr h (Int.ofNat_le.mp z)
theorem Aw {n k d:Nat}:Ia n (.int (k:Int)) d=some (min k n):=by
 show some (if 0≤(k:Int) then min (k:Int).toNat n else((k:Int)+n).toNat)=_
 rw[if_pos (by lia)]
 rfl
theorem Mg {B:List Nat}(p n:Nat):Ad B (min p B.length) (min (p+n) B.length)=(B.drop p).take n:=by
 unfold Ad
 rw[List.drop_take]
 by_cases h:p≤B.length
 ·rw[ES h]
  by_cases q:p+n≤B.length
  ·rw[ES q,Nat.add_sub_cancel_left]
  ·have q:=BU (Gh.mp q)
   rw[Nat.min_eq_right q,EX (Bp Ci),EX (by rw[Ci];exact Nat.sub_le_of_le_add (BY p n▸q))]
 ·have h:=BU (Gh.mp h)
  rw[List.drop_eq_nil_of_le (Nat.le_min.mpr ⟨h,Ak _⟩),List.drop_eq_nil_of_le h,FJ,FJ]
theorem gs {l:List O}{n:Nat}{o o':O}(h:l[n]? =some o):(l.set n o')[n]? =some o':=EY (AI.mp h).1
theorem gn {l:List O}{n m:Nat}{o o':O}(e:m≠n)(h:l[n]? =some o):(l.set m o')[n]? =some o:=(B7 e).trans h
theorem ga {l r:List O}{o:O}:(l++o::r)[l.length]? =some o:=by rw[C2 (Ak _),Ep];rfl
theorem gl {l r:List O}{n:Nat}{o:O}(h:l[n]? =some o):(l++r)[n]? =some o:=(C6 (AI.mp h).1).trans h
theorem Kx {l:List O}{n:Nat}{o:O}(h:l[n]? =some o):l.set n o=l:=by
 refine Do (AI.mp h) fun hl e=>?_
 rw[←e,List.set_getElem_self]
theorem B8 {u v:V}(h:Az u=true)(h2:HO v=false):GX u v=true:=by unfold GX;rw[h,h2];rfl
noncomputable def CR (S:BD)(d:Nat)(ss:List Stmt)(s:St)(f:Fl)(s':St):Prop:=∀k e o,DA S o (k f s')→DA S o (Cy (E S 40) d ss s k e)
noncomputable def XR (S:BD)(is:List Dz)(m d:Nat)(ss:List Stmt)(s:St):KF→KE→PO:=fun k e=>Cu S is (Cy (E S m) d ss s k e)
theorem CR.by {S:BD}{d:Nat}{ss:List Stmt}{s:St}{f:Fl}{s':St}(is:List Dz){p:Prop}(hp:p)(e:XR S is 40 d ss s=Uy p f s'):CR S d ss s f s':=
 fun k e' o y=>DR hp (HW e k e') y
theorem Pa (r:GT)(d:Nat)(a b:List Stmt):∀(s:St) (k:Fl→St→Ay) (e:V→St→Ay),Cy r d (a++b) s k e=Cy r d a s (fun f s'=>Hd (Cy r d b) f s' k e) e:=by
 induction a with
 |nil=>exact fun s k e=>rfl
 |cons x a ih=>
  intro s k e
  show r.ex d x s (fun f s'=>Hd (Cy r d (a++b)) f s' k e) e=r.ex d x s (fun f s'=>Hd (Cy r d a) f s' (fun f s'=>Hd (Cy r d b) f s' k e) e) e
  refine congrArg (fun z=>r.ex d x s z e) (funext fun f=>funext fun s'=>?_)
  rcases f with _|_
  case next=>exact ih s' k e
  all_goals rfl
theorem CR.app {S:BD}{d:Nat}{a b:List Stmt}{s s1 s2:St}{f:Fl}(x:CR S d a s .next s1)(y:CR S d b s1 f s2):CR S d (a++b) s f s2:=fun k e o z=>by
 rw[Pa];exact x _ e o (y k e o z)
theorem BC.ret {S:BD}{d:Nat}{t:Expr}{b:List Stmt}{s s':St}{v:V}(hT:∀k e,(E S 40).tr d t s k e=k true s)(x:CR S d b s (.ret v) s'):BC S d t b s (.ret v) s':=fun k e o z=>by
 refine DA.stp ?_
 show DA S o ((E S 40).tr d t s (fun q s=>Ej q ((Cy (E S 40) d b).bind (GU (Go d t b))) (.pure .next) s k e) e)
 rw[hT]
 exact(x (fun f s=>GU (Go d t b) f s k e) e o z).imp fun n h=>h
theorem BC.next {S:BD}{d:Nat}{t:Expr}{b:List Stmt}{s s1 s':St}{f:Fl}(hT:∀k e,(E S 40).tr d t s k e=k true s)(x:CR S d b s .next s1)(n:BC S d t b s1 f s'):BC S d t b s f s':=fun k e o z=>by
 refine DA.stp ?_
 show DA S o ((E S 40).tr d t s (fun q s=>Ej q ((Cy (E S 40) d b).bind (GU (Go d t b))) (.pure .next) s k e) e)
 rw[hT]
 exact(x (fun f s=>GU (Go d t b) f s k e) e o (n k e o z)).imp fun n h=>h
theorem AN.rows {S:BD}{d f:Nat}{vs:List V}{kws:List (Str×V)}{h:List O}{b:List Stmt}{s s':St}{v:V}(e:∀k e,H5 S (E S 40) d f vs kws h k e=Cy (E S 40) d b s (Ho k) (Hv e))(x:CR S d b s (.ret v) s'):AN S d f vs kws h v s'.heap:=
 fun k e' o y=>DA.stp (by show DA S o (H5 S (E S 40) d f vs kws h k e');rw[e];exact x _ _ o y)
noncomputable def H9 (B:List Nat)(p:Nat)(lc:Nat×Nat):Nat×Nat:=
 let c:=B.getD p 0
 if c∈[10,133,8232,8233] then(lc.1+1,0) else if c=13 then(if B.getD (p+1) 0=10 then(lc.1,lc.2+1) else(lc.1+1,0)) else if c=65279 then lc else(lc.1,lc.2+1)
noncomputable def Hs (B:List Nat):Nat→Nat→Nat×Nat→Nat×Nat
 |0,_,lc=>lc
 |k+1,p,lc=>Hs B k (p+1) (H9 B p lc)
theorem VG (B:List Nat)(k p:Nat)(lc:Nat×Nat):Hs B (k+1) p lc=Hs B k (p+1) (H9 B p lc):=rfl
noncomputable def AL (n:Nat)(σ:Sc):Sc:={σ with p:=σ.p+n,ix:=σ.ix+n,ln:=(Hs σ.B n σ.p (σ.ln,σ.cl)).1,cl:=(Hs σ.B n σ.p (σ.ln,σ.cl)).2}
theorem K1 (B:List Nat)(b:Nat):∀(a p:Nat) (lc:Nat×Nat),Hs B (a+b) p lc=Hs B b (p+a) (Hs B a p lc)
 |0,p,lc=>by rw[CS];rfl
 |a+1,p,lc=>by rw[Nat.add_right_comm,VG,K1 B b a,VG,BP,BY 1 a]
theorem B9 (a b:Nat)(σ:Sc):AL (a+b) σ=AL b (AL a σ):=by
 unfold AL
 rw[K1,BP,BP]
structure Rd (σ:Sc)(u:List Nat):Prop where
 at_:σ.B.drop σ.p=u
 z:σ.B.length≤lim
section
variable {ns:List Int}{σ:Sc}{d:Nat}{hs:List O}{x r:List Nat}{c a:Nat}
theorem Rd.skip (h:Rd σ (x++r)):Rd (AL x.length σ) r:=⟨by show σ.B.drop (σ.p+x.length)=r;rw[←Be,h.at_,Fu],h.z⟩
theorem Rd.next (h:Rd σ (a::r)):Rd (AL 1 σ) r:=Rd.skip (x:=[a]) h
theorem Rd.get (h:Rd σ (x++c::r)):σ.B[σ.p+x.length]? =some c:=by rw[←Cj,h.at_,C2 (Ak _),Ep];rfl
theorem Rd.get0 (h:Rd σ (c::r)):σ.B[σ.p]? =some c:=Rd.get (x:=[]) h
theorem Rd.lt (h:Rd σ (x++c::r)):σ.p+x.length<σ.B.length:=Lc h.get
theorem Rd.len {u:List Nat}(h:Rd σ u):u.length≤lim:=by rw[←h.at_,Ci];exact AM (Nat.sub_le _ _) h.z
theorem Rd.as {u v:List Nat}(h:Rd σ u)(e:u=v):Rd σ v:=e▸h
theorem Ec (h:Rd σ (x++c::r)):AN (S ns) (d+1) 4 [.obj 0,.int (x.length:Int)] [] (scO σ::hs) (Ai c) (scO σ::hs):=by
 have hx:=LG h.lt h.z
 have hy:=Qy h.get
 exact AN.by [.v .nat (Sc.p σ+A9 x),.v .nat (c)] (an hx (an hy trivial)) (by kernel_rfl)
theorem Bi (h:Rd σ (c::r)):AN (S ns) (d+1) 4 [.obj 0] [] (scO σ::hs) (Ai c) (scO σ::hs):=by
 have hx:=LG (Lc h.get0) h.z
 have hy:=Qy h.get0
 exact AN.by [.v .nat (Sc.p σ),.v .nat (c)] (an hx (an hy trivial)) (by kernel_rfl)
theorem Lr {v:V}:AN (S ns) (d+1) 9 [.obj 0,v] [] (scO σ::hs) .none (scO σ::hs):=by
 exact AN.by [.a 1] trivial (by kernel_rfl)
theorem Ii {u:List Nat}(h:Rd σ u){n:Nat}:AN (S ns) (d+2) 5 [.obj 0,.int (n:Int)] [] (scO σ::hs) (.str ⟨(u.take n).toArray⟩) (scO σ::hs):=by
 have hz:=h.z
 rw[←h.at_,←Mg]
 by_cases q:σ.B.length≤σ.p+n
 ·have q1:=QK q
  exact AN.by [.t,.t,.c (V.none) (scO σ::hs),.t,.v .nat (min (Sc.p σ) (A9 (Sc.B σ))),.v .nat (min (Sc.p σ+n) (A9 (Sc.B σ)))] (an (At (n:=A9 (Sc.B σ)) (h:=hz)) (an q1 (an (Lr (ns:=ns) (σ:=σ) (d:=d) (hs:=hs) (v:=V.int (↑n:Int))) (an (At (n:=A9 (Sc.B σ)) (h:=hz)) (an (Aw (n:=A9 (Sc.B σ)) (k:=Sc.p σ) (d:=0)) (an (Aw (n:=A9 (Sc.B σ)) (k:=Sc.p σ+n) (d:=A9 (Sc.B σ))) trivial)))))) (by kernel_rfl)
 ·have q1:=QL (Gh.mp q)
  exact AN.by [.t,.f,.t,.v .nat (min (Sc.p σ) (A9 (Sc.B σ))),.v .nat (min (Sc.p σ+n) (A9 (Sc.B σ)))] (an (At (n:=A9 (Sc.B σ)) (h:=hz)) (an q1 (an (At (n:=A9 (Sc.B σ)) (h:=hz)) (an (Aw (n:=A9 (Sc.B σ)) (k:=Sc.p σ) (d:=0)) (an (Aw (n:=A9 (Sc.B σ)) (k:=Sc.p σ+n) (d:=A9 (Sc.B σ))) trivial))))) (by kernel_rfl)
theorem Jo (h:Rd σ (x++r)):AN (S ns) (d+2) 5 [.obj 0,.int (x.length:Int)] [] (scO σ::hs) (.str ⟨x.toArray⟩) (scO σ::hs):=by
 have:=Ii (ns:=ns) (d:=d) (hs:=hs) h (n:=x.length)
 rwa [List.take_left] at this
noncomputable def T6:Expr:=wT (Bv (C9 6) 1)
noncomputable def B6:List Stmt:=wB (Bv (C9 6) 1)
noncomputable abbrev Hr (k:Nat)(v:V):List (Str×V):=[("self",.obj 0),("length",.int (k:Int)),("ch",v),("len",.bi "len")]
theorem IP (k:Nat):((k+1:Nat):Int) - 1=(k:Int):=by lia
theorem PY {B:List Nat}{p c:Nat}(h:B[p]? =some c):B.getD p 0=c:=by rw[C3,h];rfl
theorem SA {c2:Nat}(h:Rd σ (c::c2::r)){k:Nat}{v:V}(hv:Az v=true){s':St}(n:BC (S ns) (d+1) T6 B6 ⟨Hr k (Ai c),scO (AL 1 σ)::hs⟩ .next s'):
  BC (S ns) (d+1) T6 B6 ⟨Hr (k+1) v,scO σ::hs⟩ .next s':=by
 have hz:=h.z
 have hc:=h.get0
 have hc2:σ.B[σ.p+1]? =some c2:=Rd.get (x:=[c]) h
 have hx:=LG (Lc hc) hz
 have hx2:=LG (Lc hc2) hz
 have hy:=Qy hc
 have hy2:=Qy hc2
 have n:BC (S ns) (d+1) T6 B6 ⟨Hr k (Ai c),scO {σ with p:=σ.p+1,ix:=σ.ix+1,ln:=(H9 σ.B σ.p (σ.ln,σ.cl)).1,cl:=(H9 σ.B σ.p (σ.ln,σ.cl)).2}::hs⟩ .next s':=n
 unfold H9 at n
 rw[PY hc,PY hc2] at n
 by_cases q1:c∈[10,133,8232,8233]
 ·rw[if_pos q1] at n
  refine BC.go (s1:=St.mk [(A8 "self",V.obj 0),(A8 "length",V.int ((↑(k+1):Int) - 1)),(A8 "ch",V.str (Str.mk #[c])),(A8 "len",V.bi "len")] (scO (Sc.mk (Sc.B σ) (Sc.p σ+1) (Sc.ix σ+1) (Sc.ln σ+1) 0 (Sc.dn σ) (Sc.tk σ) (Sc.tn σ) (Sc.ind σ) (Sc.ask σ) (Sc.keys σ))::hs)) [.t,.v .nat (Sc.p σ),.v .nat (c),.t,.t,.a 2] ?_ (an HP (an hx (an hy (an (B8 (u:=v) (v:=Ai c) (h:=hv) (h2:=(by rfl))) (an (ZL (c:=c) (h:=q1)) trivial))))) (by kernel_rfl)
  rw[IP];exact n
 ·rw[if_neg q1] at n
  by_cases q2:c=13
  ·subst q2
   rw[if_pos rfl] at n
   by_cases q3:c2=10
   ·subst q3
    rw[if_pos rfl] at n
    refine BC.go (s1:=St.mk [(A8 "self",V.obj 0),(A8 "length",V.int ((↑(k+1):Int) - 1)),(A8 "ch",V.str (Str.mk #[13])),(A8 "len",V.bi "len")] (scO (Sc.mk (Sc.B σ) (Sc.p σ+1) (Sc.ix σ+1) (Sc.ln σ) (Sc.cl σ+1) (Sc.dn σ) (Sc.tk σ) (Sc.tn σ) (Sc.ind σ) (Sc.ask σ) (Sc.keys σ))::hs)) [.t,.v .nat (Sc.p σ),.v .nat (13),.t,.a 2,.v .nat (Sc.p σ+1),.v .nat (10),.a 5] ?_ (an HP (an hx (an hy (an (B8 (u:=v) (v:=Ai 13) (h:=hv) (h2:=(by rfl))) (an hx2 (an hy2 trivial)))))) (by kernel_rfl)
    rw[IP];exact n
   ·rw[if_neg q3] at n
    refine BC.go (s1:=St.mk [(A8 "self",V.obj 0),(A8 "length",V.int ((↑(k+1):Int) - 1)),(A8 "ch",V.str (Str.mk #[13])),(A8 "len",V.bi "len")] (scO (Sc.mk (Sc.B σ) (Sc.p σ+1) (Sc.ix σ+1) (Sc.ln σ+1) 0 (Sc.dn σ) (Sc.tk σ) (Sc.tn σ) (Sc.ind σ) (Sc.ask σ) (Sc.keys σ))::hs)) [.t,.v .nat (Sc.p σ),.v .nat (13),.t,.a 2,.v .nat (Sc.p σ+1),.v .nat (c2),.t,.a 3] ?_ (an HP (an hx (an hy (an (B8 (u:=v) (v:=Ai 13) (h:=hv) (h2:=(by rfl))) (an hx2 (an hy2 (an (congrArg not (az (c:=c2) (h:=q3))) trivial))))))) (by kernel_rfl)
    rw[IP];exact n
  ·rw[if_neg q2] at n
   by_cases q4:c=65279
   ·subst q4
    rw[if_pos rfl] at n
    refine BC.go (s1:=St.mk [(A8 "self",V.obj 0),(A8 "length",V.int ((↑(k+1):Int) - 1)),(A8 "ch",V.str (Str.mk #[65279])),(A8 "len",V.bi "len")] (scO (Sc.mk (Sc.B σ) (Sc.p σ+1) (Sc.ix σ+1) (Sc.ln σ) (Sc.cl σ) (Sc.dn σ) (Sc.tk σ) (Sc.tn σ) (Sc.ind σ) (Sc.ask σ) (Sc.keys σ))::hs)) [.t,.v .nat (Sc.p σ),.v .nat (65279),.t,.a 6] ?_ (an HP (an hx (an hy (an (B8 (u:=v) (v:=Ai 65279) (h:=hv) (h2:=(by rfl))) trivial)))) (by kernel_rfl)
    rw[IP];exact n
   ·rw[if_neg q4] at n
    refine BC.go (s1:=St.mk [(A8 "self",V.obj 0),(A8 "length",V.int ((↑(k+1):Int) - 1)),(A8 "ch",V.str (Str.mk #[c])),(A8 "len",V.bi "len")] (scO (Sc.mk (Sc.B σ) (Sc.p σ+1) (Sc.ix σ+1) (Sc.ln σ) (Sc.cl σ+1) (Sc.dn σ) (Sc.tk σ) (Sc.tn σ) (Sc.ind σ) (Sc.ask σ) (Sc.keys σ))::hs)) [.t,.v .nat (Sc.p σ),.v .nat (c),.t,.f,.f,.a 2,.t,.a 1] ?_ (an HP (an hx (an hy (an (B8 (u:=v) (v:=Ai c) (h:=hv) (h2:=(by rfl))) (an (ZM (c:=c) (h:=q1)) (an (bL (c:=c) (h:=q2)) (an (congrArg not (VX (c:=c) (h:=q4))) trivial))))))) (by kernel_rfl)
    rw[IP];exact n
end
section
variable {ns:List Int}{d:Nat}{hs:List O}{r:List Nat}{c:Nat}
theorem OO:∀{x:List Nat} {σ:Sc} {v:V},Az v=true→Rd σ (x++c::r)→∃v',BC (S ns) (d+1) T6 B6 ⟨Hr x.length v,scO σ::hs⟩ .next ⟨Hr 0 v',scO (AL x.length σ)::hs⟩:=by
 intro x
 induction x with
 |nil=>
  intro σ v hv h
  refine⟨v,?_⟩
  rw[show AL (A9 (α:=Nat) []) σ=σ from rfl]
  exact BC.by [.a 1] trivial (by kernel_rfl)
 |cons a x ih=>
  intro σ v hv h
  refine Do (ih (σ:=AL 1 σ) (v:=Ai a) rfl (Rd.next h)) fun v' e=>?_
  rw[←B9] at e
  rw[AQ,BY x.length 1]
  refine⟨v',?_⟩
  rw[BY 1] at e ⊢
  rcases x with _|⟨b,x⟩
  ·exact SA h hv e
  ·exact SA h hv e
theorem Kc {x:List Nat}{σ:Sc}(h:Rd σ (x++c::r)):AN (S ns) (d+2) 6 [.obj 0,.int (x.length:Int)] [] (scO σ::hs) .none (scO (AL x.length σ)::hs):=by
 refine Do (OO (ns:=ns) (d:=d+1) (hs:=hs) (v:=.undef) rfl h) fun v' e=>?_
 have hz:=h.z
 by_cases q:σ.B.length≤σ.p+x.length+1
 ·have q1:=QK q
  exact AN.by [.t,.t,.c (V.none) (scO σ::hs),.w (Fl.next) (St.mk (Hr 0 v') (scO (AL (A9 x) σ)::hs))] (an (At (n:=A9 (Sc.B σ)) (h:=hz)) (an q1 (an (Lr (ns:=ns) (σ:=σ) (d:=d) (hs:=hs) (v:=V.int (↑(A9 x+1):Int))) (an e trivial)))) (by kernel_rfl)
 ·have q1:=QL (Gh.mp q)
  exact AN.by [.t,.f,.w (Fl.next) (St.mk (Hr 0 v') (scO (AL (A9 x) σ)::hs))] (an (At (n:=A9 (Sc.B σ)) (h:=hz)) (an q1 (an e trivial))) (by kernel_rfl)
theorem EW {σ:Sc}{a:Nat}(h:Rd σ (a::c::r)):AN (S ns) (d+2) 6 [.obj 0] [] (scO σ::hs) .none (scO (AL 1 σ)::hs):=by
 refine Do (OO (ns:=ns) (d:=d+1) (hs:=hs) (v:=.undef) rfl (x:=[a]) h) fun v' e=>?_
 have e:BC (S ns) (d+2) T6 B6 ⟨Hr 1 .undef,scO σ::hs⟩ .next ⟨Hr 0 v',scO (AL 1 σ)::hs⟩:=e
 have hz:=h.z
 by_cases q:σ.B.length≤σ.p+1+1
 ·have q1:=QK q
  exact AN.by [.t,.t,.c (V.none) (scO σ::hs),.w (Fl.next) (St.mk (Hr 0 v') (scO (AL 1 σ)::hs))] (an (At (n:=A9 (Sc.B σ)) (h:=hz)) (an q1 (an (Lr (ns:=ns) (σ:=σ) (d:=d) (hs:=hs) (v:=V.int (↑(1+1):Int))) (an e trivial)))) (by kernel_rfl)
 ·have q1:=QL (Gh.mp q)
  exact AN.by [.t,.f,.w (Fl.next) (St.mk (Hr 0 v') (scO (AL 1 σ)::hs))] (an (At (n:=A9 (Sc.B σ)) (h:=hz)) (an q1 (an e trivial))) (by kernel_rfl)
end
theorem EO (h:List O)(o o':O):(h++[o]).set h.length o'=h++[o']:=by
 rw[List.set_append_right _ _ (Ak _),Ep];rfl
noncomputable def IQ (c:Nat)(n:Nat):List O→List (Str×V)→List (Str×V)→List O
 |l,_,[]=>l
 |l,acc,f::r=>IQ c n (l.set n (.inst c (acc++[f]))) (acc++[f]) r
theorem JE (c:Nat)(l:List O)(r:List (Str×V)):∀acc,IQ c l.length (l++[.inst c acc]) acc r=l++[.inst c (acc++r)]:=by
 induction r with
 |nil=>exact fun acc=>by rw[AK];rfl
 |cons f r ih=>
  intro acc
  show IQ c l.length ((l++[O.inst c acc]).set l.length (O.inst c (acc++[f]))) (acc++[f]) r=_
  rw[EO,ih,AB]
  rfl
section
variable {ns:List Int}{σ:Sc}{d:Nat}{hs l:List O}{a0:O}
theorem AN.ini {S:BD}{d f:Nat}{vs:List V}{c:Nat}{h:List O}{fs:List (Str×V)}(x:AN S d f vs [] h .none (a0::IQ c l.length (l++[.inst c []]) [] fs)):AN S d f vs [] h .none (a0::(l++[.inst c fs])):=by
 rw[JE] at x;exact x
theorem AN.inik {S:BD}{d f:Nat}{vs:List V}{kw:List (Str×V)}{c:Nat}{h:List O}{fs:List (Str×V)}(x:AN S d f vs kw h .none (a0::IQ c l.length (l++[.inst c []]) [] fs)):AN S d f vs kw h .none (a0::(l++[.inst c fs])):=by
 rw[JE] at x;exact x
noncomputable abbrev Jt (nm:Str)(a b c:Int)(bf:Str)(p:Int):List (Str×V):=[("name",.str nm),("index",.int a),("line",.int b),("column",.int c),("buffer",.str bf),("pointer",.int p)]
theorem VK {nm bf:Str}{a b c p:Int}:AN (S ns) (d+1) 0 [.obj (l.length+1),.str nm,.int a,.int b,.int c,.str bf,.int p] [] (a0::(l++[.inst 0 []])) .none (a0::(l++[.inst 0 (Jt nm a b c bf p)])):=by
 refine .ini ?_
 exact AN.by [.v .ob (O.inst 0 []),.v .ob (O.inst 0 [(A8 "name",V.str nm)]),.v .ob (O.inst 0 [(A8 "name",V.str nm),(A8 "index",V.int a)]),.v .ob (O.inst 0 [(A8 "name",V.str nm),(A8 "index",V.int a),(A8 "line",V.int b)]),.v .ob (O.inst 0 [(A8 "name",V.str nm),(A8 "index",V.int a),(A8 "line",V.int b),(A8 "column",V.int c)]),.v .ob (O.inst 0 [(A8 "name",V.str nm),(A8 "index",V.int a),(A8 "line",V.int b),(A8 "column",V.int c),(A8 "buffer",V.str bf)])] (an (ga (l:=l) (o:=O.inst 0 []) (r:=[])) (an (gs (o':=O.inst 0 [(A8 "name",V.str nm)]) (ga (l:=l) (o:=O.inst 0 []) (r:=[]))) (an (gs (o':=O.inst 0 [(A8 "name",V.str nm),(A8 "index",V.int a)]) (gs (o':=O.inst 0 [(A8 "name",V.str nm)]) (ga (l:=l) (o:=O.inst 0 []) (r:=[])))) (an (gs (o':=O.inst 0 [(A8 "name",V.str nm),(A8 "index",V.int a),(A8 "line",V.int b)]) (gs (o':=O.inst 0 [(A8 "name",V.str nm),(A8 "index",V.int a)]) (gs (o':=O.inst 0 [(A8 "name",V.str nm)]) (ga (l:=l) (o:=O.inst 0 []) (r:=[]))))) (an (gs (o':=O.inst 0 [(A8 "name",V.str nm),(A8 "index",V.int a),(A8 "line",V.int b),(A8 "column",V.int c)]) (gs (o':=O.inst 0 [(A8 "name",V.str nm),(A8 "index",V.int a),(A8 "line",V.int b)]) (gs (o':=O.inst 0 [(A8 "name",V.str nm),(A8 "index",V.int a)]) (gs (o':=O.inst 0 [(A8 "name",V.str nm)]) (ga (l:=l) (o:=O.inst 0 []) (r:=[])))))) (an (gs (o':=O.inst 0 [(A8 "name",V.str nm),(A8 "index",V.int a),(A8 "line",V.int b),(A8 "column",V.int c),(A8 "buffer",V.str bf)]) (gs (o':=O.inst 0 [(A8 "name",V.str nm),(A8 "index",V.int a),(A8 "line",V.int b),(A8 "column",V.int c)]) (gs (o':=O.inst 0 [(A8 "name",V.str nm),(A8 "index",V.int a),(A8 "line",V.int b)]) (gs (o':=O.inst 0 [(A8 "name",V.str nm),(A8 "index",V.int a)]) (gs (o':=O.inst 0 [(A8 "name",V.str nm)]) (ga (l:=l) (o:=O.inst 0 []) (r:=[]))))))) trivial)))))) (by kernel_rfl)
noncomputable def Bt (σ:Sc):List (Str×V):=Jt "<unicode string>" σ.ix σ.ln σ.cl ⟨σ.B.toArray⟩ σ.p
noncomputable abbrev mk (σ:Sc):V:=.rcd 0 (Bt σ)
theorem ED:AN (S ns) (d+2) 7 [.obj 0] [] (scO σ::hs) (mk σ) (scO σ::(hs++[.dead])):=by
 rw[←EO hs (.inst 0 (Bt σ))]
 unfold mk Bt
 exact AN.by [.a 1,.c (V.none) (scO σ::(hs++[O.inst 0 (Jt (A8 "<unicode string>") (↑(Sc.ix σ):Int) (↑(Sc.ln σ):Int) (↑(Sc.cl σ):Int) (Str.mk (AE (Sc.B σ))) (↑(Sc.p σ):Int))])),.v .ob (O.inst 0 [(A8 "name",V.str (A8 "<unicode string>")),(A8 "index",V.int (↑(Sc.ix σ):Int)),(A8 "line",V.int (↑(Sc.ln σ):Int)),(A8 "column",V.int (↑(Sc.cl σ):Int)),(A8 "buffer",V.str (Str.mk (AE (Sc.B σ)))),(A8 "pointer",V.int (↑(Sc.p σ):Int))])] (an (VK (ns:=ns) (d:=d) (l:=hs) (a0:=scO σ) (nm:=A8 "<unicode string>") (bf:=Str.mk (AE (Sc.B σ))) (a:=(↑(Sc.ix σ):Int)) (b:=(↑(Sc.ln σ):Int)) (c:=(↑(Sc.cl σ):Int)) (p:=(↑(Sc.p σ):Int))) (an (ga (l:=hs) (o:=O.inst 0 [(A8 "name",V.str (A8 "<unicode string>")),(A8 "index",V.int (↑(Sc.ix σ):Int)),(A8 "line",V.int (↑(Sc.ln σ):Int)),(A8 "column",V.int (↑(Sc.cl σ):Int)),(A8 "buffer",V.str (Str.mk (AE (Sc.B σ)))),(A8 "pointer",V.int (↑(Sc.p σ):Int))]) (r:=[])) trivial)) (by kernel_rfl)
theorem Xn {c1 c2:Nat}{f1 f2:List (Str×V)}:AN (S ns) (d+1) 11 [.obj (l.length+1),.rcd c1 f1,.rcd c2 f2] [("encoding",.none)] (a0::(l++[.inst 1 []])) .none (a0::(l++[.inst 1 [("start_mark",.rcd c1 f1),("end_mark",.rcd c2 f2),("encoding",.none)]])):=by
 refine .inik ?_
 exact AN.by [.v .ob (O.inst 1 []),.v .ob (O.inst 1 [(A8 "start_mark",V.rcd c1 f1)]),.v .ob (O.inst 1 [(A8 "start_mark",V.rcd c1 f1),(A8 "end_mark",V.rcd c2 f2)])] (an (ga (l:=l) (o:=O.inst 1 []) (r:=[])) (an (gs (o':=O.inst 1 [(A8 "start_mark",V.rcd c1 f1)]) (ga (l:=l) (o:=O.inst 1 []) (r:=[]))) (an (gs (o':=O.inst 1 [(A8 "start_mark",V.rcd c1 f1),(A8 "end_mark",V.rcd c2 f2)]) (gs (o':=O.inst 1 [(A8 "start_mark",V.rcd c1 f1)]) (ga (l:=l) (o:=O.inst 1 []) (r:=[])))) trivial))) (by kernel_rfl)
theorem Xo {c1 c2:Nat}{f1 f2:List (Str×V)}:AN (S ns) (d+1) 10 [.obj (l.length+1),.rcd c1 f1,.rcd c2 f2] [] (a0::(l++[.inst 2 []])) .none (a0::(l++[.inst 2 [("start_mark",.rcd c1 f1),("end_mark",.rcd c2 f2)]])):=by
 refine .ini ?_
 exact AN.by [.v .ob (O.inst 2 []),.v .ob (O.inst 2 [(A8 "start_mark",V.rcd c1 f1)])] (an (ga (l:=l) (o:=O.inst 2 []) (r:=[])) (an (gs (o':=O.inst 2 [(A8 "start_mark",V.rcd c1 f1)]) (ga (l:=l) (o:=O.inst 2 []) (r:=[]))) trivial)) (by kernel_rfl)
noncomputable abbrev Jm (v:Str)(a b:V)(y:Str):V:=.rcd 6 [("value",.str v),("plain",.bool false),("start_mark",a),("end_mark",b),("style",.str y)]
theorem Xm {v y:Str}{c1 c2:Nat}{f1 f2:List (Str×V)}:AN (S ns) (d+1) 12 [.obj (l.length+1),.str v,.bool false,.rcd c1 f1,.rcd c2 f2,.str y] [] (a0::(l++[.inst 6 []])) .none (a0::(l++[.inst 6 [("value",.str v),("plain",.bool false),("start_mark",.rcd c1 f1),("end_mark",.rcd c2 f2),("style",.str y)]])):=by
 refine .ini ?_
 exact AN.by [.v .ob (O.inst 6 []),.v .ob (O.inst 6 [(A8 "value",V.str v)]),.v .ob (O.inst 6 [(A8 "value",V.str v),(A8 "plain",V.bool false)]),.v .ob (O.inst 6 [(A8 "value",V.str v),(A8 "plain",V.bool false),(A8 "start_mark",V.rcd c1 f1)]),.v .ob (O.inst 6 [(A8 "value",V.str v),(A8 "plain",V.bool false),(A8 "start_mark",V.rcd c1 f1),(A8 "end_mark",V.rcd c2 f2)])] (an (ga (l:=l) (o:=O.inst 6 []) (r:=[])) (an (gs (o':=O.inst 6 [(A8 "value",V.str v)]) (ga (l:=l) (o:=O.inst 6 []) (r:=[]))) (an (gs (o':=O.inst 6 [(A8 "value",V.str v),(A8 "plain",V.bool false)]) (gs (o':=O.inst 6 [(A8 "value",V.str v)]) (ga (l:=l) (o:=O.inst 6 []) (r:=[])))) (an (gs (o':=O.inst 6 [(A8 "value",V.str v),(A8 "plain",V.bool false),(A8 "start_mark",V.rcd c1 f1)]) (gs (o':=O.inst 6 [(A8 "value",V.str v),(A8 "plain",V.bool false)]) (gs (o':=O.inst 6 [(A8 "value",V.str v)]) (ga (l:=l) (o:=O.inst 6 []) (r:=[]))))) (an (gs (o':=O.inst 6 [(A8 "value",V.str v),(A8 "plain",V.bool false),(A8 "start_mark",V.rcd c1 f1),(A8 "end_mark",V.rcd c2 f2)]) (gs (o':=O.inst 6 [(A8 "value",V.str v),(A8 "plain",V.bool false),(A8 "start_mark",V.rcd c1 f1)]) (gs (o':=O.inst 6 [(A8 "value",V.str v),(A8 "plain",V.bool false)]) (gs (o':=O.inst 6 [(A8 "value",V.str v)]) (ga (l:=l) (o:=O.inst 6 []) (r:=[])))))) trivial))))) (by kernel_rfl)
theorem Xl {t ix ln cl:Int}{r:Bool}{c1:Nat}{f1:List (Str×V)}:AN (S ns) (d+1) 13 [.obj (l.length+1),.int t,.bool r,.int ix,.int ln,.int cl,.rcd c1 f1] [] (a0::(l++[.inst 7 []])) .none (a0::(l++[.inst 7 [("token_number",.int t),("required",.bool r),("index",.int ix),("line",.int ln),("column",.int cl),("mark",.rcd c1 f1)]])):=by
 refine .ini ?_
 exact AN.by [.v .ob (O.inst 7 []),.v .ob (O.inst 7 [(A8 "token_number",V.int t)]),.v .ob (O.inst 7 [(A8 "token_number",V.int t),(A8 "required",V.bool r)]),.v .ob (O.inst 7 [(A8 "token_number",V.int t),(A8 "required",V.bool r),(A8 "index",V.int ix)]),.v .ob (O.inst 7 [(A8 "token_number",V.int t),(A8 "required",V.bool r),(A8 "index",V.int ix),(A8 "line",V.int ln)]),.v .ob (O.inst 7 [(A8 "token_number",V.int t),(A8 "required",V.bool r),(A8 "index",V.int ix),(A8 "line",V.int ln),(A8 "column",V.int cl)])] (an (ga (l:=l) (o:=O.inst 7 []) (r:=[])) (an (gs (o':=O.inst 7 [(A8 "token_number",V.int t)]) (ga (l:=l) (o:=O.inst 7 []) (r:=[]))) (an (gs (o':=O.inst 7 [(A8 "token_number",V.int t),(A8 "required",V.bool r)]) (gs (o':=O.inst 7 [(A8 "token_number",V.int t)]) (ga (l:=l) (o:=O.inst 7 []) (r:=[])))) (an (gs (o':=O.inst 7 [(A8 "token_number",V.int t),(A8 "required",V.bool r),(A8 "index",V.int ix)]) (gs (o':=O.inst 7 [(A8 "token_number",V.int t),(A8 "required",V.bool r)]) (gs (o':=O.inst 7 [(A8 "token_number",V.int t)]) (ga (l:=l) (o:=O.inst 7 []) (r:=[]))))) (an (gs (o':=O.inst 7 [(A8 "token_number",V.int t),(A8 "required",V.bool r),(A8 "index",V.int ix),(A8 "line",V.int ln)]) (gs (o':=O.inst 7 [(A8 "token_number",V.int t),(A8 "required",V.bool r),(A8 "index",V.int ix)]) (gs (o':=O.inst 7 [(A8 "token_number",V.int t),(A8 "required",V.bool r)]) (gs (o':=O.inst 7 [(A8 "token_number",V.int t)]) (ga (l:=l) (o:=O.inst 7 []) (r:=[])))))) (an (gs (o':=O.inst 7 [(A8 "token_number",V.int t),(A8 "required",V.bool r),(A8 "index",V.int ix),(A8 "line",V.int ln),(A8 "column",V.int cl)]) (gs (o':=O.inst 7 [(A8 "token_number",V.int t),(A8 "required",V.bool r),(A8 "index",V.int ix),(A8 "line",V.int ln)]) (gs (o':=O.inst 7 [(A8 "token_number",V.int t),(A8 "required",V.bool r),(A8 "index",V.int ix)]) (gs (o':=O.inst 7 [(A8 "token_number",V.int t),(A8 "required",V.bool r)]) (gs (o':=O.inst 7 [(A8 "token_number",V.int t)]) (ga (l:=l) (o:=O.inst 7 []) (r:=[]))))))) trivial)))))) (by kernel_rfl)
end
noncomputable abbrev BRK:List Nat:=[13,10,133,8232,8233]
noncomputable def AV (x:List Nat):V:=.str ⟨x.toArray⟩
inductive DQ:List Nat→List Nat→List Nat→Prop
 |crlf {r:List Nat}:DQ [13,10] [10] r
 |one {c:Nat} {r:List Nat}:c∈[13,10,133]→(∀r',c::r≠13::10::r')→DQ [c] [10] r
 |wide {c:Nat} {r:List Nat}:c∈[8232,8233]→DQ [c] [c] r
theorem DQ.head {b l r:List Nat}(h:DQ b l r){G:Prop}(k:∀a b',b=a::b'→a∈BRK→l≠[]→G):G:=by
 cases h with
 |crlf=>exact k 13 [10] rfl (.head _) (fun z=>nomatch z)
 |@one c r hc _=>exact k c [] rfl (by revert hc;simp only[AZ,BH,or_false];exact fun h=>h.elim .inl fun h=>.inr (h.elim .inl fun h=>.inr (.inl h))) (fun z=>nomatch z)
 |@wide c r hc=>exact k c [] rfl (.tail _ (.tail _ (.tail _ hc))) (fun z=>nomatch z)
theorem DQ.len {b l r:List Nat}(h:DQ b l r):l.length≤b.length∧1≤b.length:=by rcases h with _|_<;>first|exact⟨Ak 1,Ak 1⟩|exact⟨by decide,by decide⟩
noncomputable abbrev MU:List Nat:=[0,32,9,13,10,133,8232,8233]
inductive Es:List Nat→Prop
 |no {u:List Nat}:u.take 3≠[45,45,45]→u.take 3≠[46,46,46]→Es u
 |dash {c:Nat} {r:List Nat}:c∉MU→Es ([45,45,45]++c::r)
 |dots {c:Nat} {r:List Nat}:c∉MU→Es ([46,46,46]++c::r)
inductive Vi:List Nat→Prop
 |dash {c:Nat} {r:List Nat}:c∈MU→Vi ([45,45,45]++c::r)
 |dots {c:Nat} {r:List Nat}:c∈MU→Vi ([46,46,46]++c::r)
noncomputable abbrev Cf (ws:List Nat):Prop:=∀y∈ws,y∈[32,9]
inductive F4:List Nat→List Nat→List Nat→Prop
 |stop {ws:List Nat} {c:Nat} {u:List Nat}:Cf ws→c∉[32,9]→c∉BRK→Es (ws++c::u)→F4 ws [] (c::u)
 |more {ws b l x t r:List Nat}:Cf ws→DQ b l (x++r)→Es (ws++(b++(x++r)))→F4 x t r→F4 (ws++(b++x)) (l++t) r
theorem F4.rest {x t r:List Nat}(h:F4 x t r):∃c u,r=c::u:=by
 induction h with
 |stop=>exact⟨_,_,rfl⟩
 |more _ _ _ _ ih=>exact ih
noncomputable def CZ (xs:List (List Nat))(u:List Nat):Prop:=xs.length+u.length≤lim
theorem CZ.ok {xs:List (List Nat)}{u:List Nat}(h:CZ xs u):BF (xs.map AV).length=true:=At (by unfold CZ at h;rw[AH];lia)
theorem CZ.app {xs ys:List (List Nat)}{x r:List Nat}(h:CZ xs (x++r))(e:ys.length≤x.length):CZ (xs++ys) r:=by unfold CZ at *;rw[AF] at *;lia
theorem CZ.ext {xs ys:List (List Nat)}{x r:List Nat}(h:CZ xs (x++r))(e:ys.length≤x.length):BF ((xs.map AV).length+(ys.map AV).length)=true:=At (by unfold CZ at h;rw[AF] at h;rw[AH,AH];lia)
theorem CZ.drop {xs:List (List Nat)}{x r:List Nat}(h:CZ xs (x++r)):CZ xs r:=by unfold CZ at *;rw[AF] at *;lia
theorem CZ.as {xs:List (List Nat)}{u v:List Nat}(h:CZ xs u)(e:u=v):CZ xs v:=e▸h
noncomputable def DY (h:List O):Prop:=h.all Eg=true
theorem DY.app {h x:List O}(n:DY h)(m:DY x):DY (h++x):=by
 unfold DY at *
 rw[List.all_append,n,m];rfl
theorem DY.set {h:List O}(n:DY h){i:Nat}{o:O}(ho:Eg o=true):DY (h.set i o):=by
 unfold DY at *
 rw[B1] at *
 exact fun x hx=>(List.mem_or_eq_of_mem_set hx).elim (n x) fun e=>e▸ho
noncomputable def B5 (h h':List O):Prop:=h.length≤h'.length∧(∀j,j<h.length→h'[j]? =h[j]?)∧(DY h→DY h')
theorem B5.refl (h:List O):B5 h h:=⟨Ak _,fun zz zz=>rfl,id⟩
theorem B5.trans {a b c:List O}(x:B5 a b)(y:B5 b c):B5 a c:=⟨AM x.1 y.1,fun j h2=>(y.2.1 j (Am h2 x.1)).trans (x.2.1 j h2),fun n=>y.2.2 (x.2.2 n)⟩
theorem B5.app (h:List O){o:O}(ho:Eg o=true:=by rfl):B5 h (h++[o]):=⟨by rw[AF];exact BM ..,fun j h2=>C6 h2,fun n=>n.app (by unfold DY;rw[DW,ho];rfl)⟩
theorem B5.up {h h':List O}(x:B5 h h'){c:Nat}(hc:h.length≤c){o:O}(ho:Eg o=true:=by rfl):B5 h (h'.set c o):=
 ⟨by rw[D0];exact x.1,fun j h2=>(B7 (CT (Am h2 hc))).trans (x.2.1 j h2),fun n=>(x.2.2 n).set ho⟩
theorem B5.get {h h':List O}(x:B5 h h'){j:Nat}{o:O}(e:h[j]? =some o):h'[j]? =some o:=(x.2.1 j (AI.mp e).1).trans e
structure Um (h h':List O)(ys:List (List Nat)):Prop where
 lst:h'[h.length]? =some (.list (ys.map AV))
 ext:B5 h h'
section
variable {ns:List Int}{σ:Sc}{c d:Nat}{hs:List O}{r l b:List Nat}{a:Nat}
theorem Rj {a:Nat}{L M:List Nat}(h:a∉M)(s:∀y∈L,y∈M:=by decide):a∉L:=fun q=>h (s a q)
theorem JK {a:Nat}{L M:List Nat}(h:a∈L)(s:∀y∈L,y∉M:=by decide):a∉M:=s a h
theorem WO {c:Nat}(h:Rd σ (c::r))(hc:c∉BRK):AN (S ns) (d+2) 38 [.obj 0] [] (scO σ::hs) (.str "") (scO σ::hs):=by
 have q1:c∉[13,10,133]:=Rj hc
 have q2:c∉[8232,8233]:=Rj hc
 exact AN.by [.c (Ai c) (scO σ::hs),.a 1,.f,.f] (an (Bi (ns:=ns) (σ:=σ) (d:=d) (hs:=hs) (r:=r) (c:=c) (h:=h)) (an (VV (c:=c) (h:=q1)) (an (Yw (c:=c) (h:=q2)) trivial))) (by kernel_rfl)
theorem J5 (h:Rd σ (b++c::r))(hb:DQ b l (c::r)):AN (S ns) (d+3) 38 [.obj 0] [] (scO σ::hs) (.str ⟨l.toArray⟩) (scO (AL b.length σ)::hs):=by
 cases hb with
 |crlf=>
  have q:(13:Nat)∈[13,10,133]:=.head _
  have q2:([13,10]++c::r).take 2=[13,10]:=rfl
  have e:=Kc (ns:=ns) (d:=d) (hs:=hs) (x:=[13,10]) h
  have e:AN (S ns) (d+2) 6 [.obj 0,.int 2] [] (scO σ::hs) .none (scO (AL 2 σ)::hs):=e
  exact AN.by [.c (Ai 13) (scO σ::hs),.a 2,.c (V.str (Str.mk (AE (Ab 2 ([13,10]++c::r))))) (scO σ::hs),.t,.c (V.none) (scO (AL 2 σ)::hs)] (an (Bi (ns:=ns) (σ:=σ) (d:=d+1) (hs:=hs) (r:=FL [10] (c::r)) (c:=13) (h:=h)) (an (Ii (ns:=ns) (σ:=σ) (d:=d) (hs:=hs) (u:=[13,10]++c::r) (n:=2) (h:=h)) (an HP (an e trivial)))) (by kernel_rfl)
 |@one a r hc hn=>
  have q:([a]++c::r).take 2≠[13,10]:=fun e=>hn r (by
   have e:[a,c]=[13,10]:=e
   rw[(Bj e).1,(Bj (Bj e).2).1])
  have e:=EW (ns:=ns) (d:=d) (hs:=hs) h
  exact AN.by [.c (Ai a) (scO σ::hs),.a 1,.t,.c (V.str (Str.mk (AE (Ab 2 ([a]++c::r))))) (scO σ::hs),.f,.c (V.none) (scO (AL 1 σ)::hs)] (an (Bi (ns:=ns) (σ:=σ) (d:=d+1) (hs:=hs) (r:=FL [] (c::r)) (c:=a) (h:=h)) (an (Zm (c:=a) (h:=hc)) (an (Ii (ns:=ns) (σ:=σ) (d:=d) (hs:=hs) (u:=[a]++c::r) (n:=2) (h:=h)) (an (LW (l:=Ab 2 ([a]++c::r)) (n:=q)) (an e trivial))))) (by kernel_rfl)
 |@wide a r hc=>
  have q:a∉[13,10,133]:=JK hc
  have e:=EW (ns:=ns) (d:=d) (hs:=hs) h
  exact AN.by [.c (Ai a) (scO σ::hs),.a 1,.f,.t,.c (V.none) (scO (AL 1 σ)::hs)] (an (Bi (ns:=ns) (σ:=σ) (d:=d+1) (hs:=hs) (r:=FL [] (c::r)) (c:=a) (h:=h)) (an (VV (c:=a) (h:=q)) (an (Yv (c:=a) (h:=hc)) (an e trivial)))) (by kernel_rfl)
end
noncomputable def bR:Expr:=wT (Bv (wB (Bv (C9 37) 1)) 2)
noncomputable def bd:List Stmt:=wB (Bv (wB (Bv (C9 37) 1)) 2)
noncomputable def aU:Expr:=wT (Bv (C9 37) 1)
noncomputable def aZ:List Stmt:=wB (Bv (C9 37) 1)
noncomputable abbrev EQ (c:Nat)(a b v:V):List (Str×V):=[("self",.obj 0),("double",a),("start_mark",b),("chunks",.obj c),("prefix",v),("ScannerError",.cls 9)]
section
variable {ns:List Int}{d:Nat}{hs:List O}{r l:List Nat}{x:Nat}{a b v:V}
theorem Nw {c:Nat}(hx:x∉[32,9]):∀{ws:List Nat} {σ:Sc},Cf ws→Rd σ (ws++x::r)→BC (S ns) (d+3) bR bd ⟨EQ c a b v,scO σ::hs⟩ .next ⟨EQ c a b v,scO (AL ws.length σ)::hs⟩:=by
 intro ws
 induction ws with
 |nil=>
  intro σ _ h
  rw[show AL (A9 (α:=Nat) []) σ=σ from rfl]
  have h:Rd σ (x::r):=h
  exact BC.by [.c (Ai x) (scO σ::hs),.f] (an (Bi (ns:=ns) (σ:=σ) (d:=d+1) (hs:=hs) (r:=r) (c:=x) (h:=h)) (an (VZ (c:=x) (h:=hx)) trivial)) (by kernel_rfl)
 |cons y ws ih=>
  intro σ hw h
  have hy:=hw y (.head _)
  have e3:=ih (fun z hz=>hw z (.tail _ hz)) (Rd.next h)
  have h:Rd σ (y::(ws++x::r)):=h
  have e2:AN (S ns) (d+2) 6 [.obj 0] [] (scO σ::hs) .none (scO (AL 1 σ)::hs):=by
   rcases ws with _|⟨z,ws⟩
   ·exact EW h
   ·exact EW h
  rw[←B9,BY 1] at e3
  refine BC.go (s1:=St.mk [(A8 "self",V.obj 0),(A8 "double",a),(A8 "start_mark",b),(A8 "chunks",V.obj c),(A8 "prefix",v),(A8 "ScannerError",V.cls 9)] (scO (AL 1 σ)::hs)) [.c (Ai y) (scO σ::hs),.t,.c (V.none) (scO (AL 1 σ)::hs)] ?_ (an (Bi (ns:=ns) (σ:=σ) (d:=d+1) (hs:=hs) (r:=ws++x::r) (c:=y) (h:=h)) (an (VY (c:=y) (h:=hy)) (an e2 trivial))) (by kernel_rfl)
  exact e3
noncomputable def bW (ns:List Int)(d c:Nat)(a b v:V)(σ:Sc)(hs:List O)(xs:List (List Nat))(x t:List Nat):Prop:=
 ∃ys v',ys.flatten=t∧ys.length≤x.length∧(t=[]→ys=[])∧BC (S ns) (d+4) aU aZ ⟨EQ (c+1) a b v,scO σ::hs⟩ (.ret (.obj (c+1))) ⟨EQ (c+1) a b v',scO (AL x.length σ)::hs.set c (.list ((xs++ys).map AV))⟩
theorem Zs {c:Nat}{x t:List Nat}(hr:F4 x t r):∀{σ:Sc} {hs:List O} {v:V} {xs:List (List Nat)},Rd σ (x++r)→hs[c]? =some (.list (xs.map AV))→CZ xs (x++r)→Az v=true→bW ns d c a b v σ hs xs x t:=by
 induction hr with
 |@stop ws x u hws hx hb hok=>
  intro σ hs v xs h hc _ hv
  have e1:=Ii (ns:=ns) (d:=d+1) (hs:=hs) h (n:=3)
  have e1:AN (S ns) (d+3) 5 [.obj 0,.int 3] [] (scO σ::hs) (.str ⟨((ws++x::u).take 3).toArray⟩) (scO σ::hs):=e1
  have e2:=Nw (ns:=ns) (d:=d+1) (c:=c+1) (hs:=hs) (a:=a) (b:=b) (v:=AV ((ws++x::u).take 3)) hx hws h
  have h2:=h.skip
  refine⟨[],AV ((ws++x::u).take 3),rfl,BX _,fun zz=>rfl,?_⟩
  rw[AK,Kx hc]
  generalize hw:ws++x::u=w at e1 e2 hok h
  cases hok with
  |no q1 q2=>exact BC.by [.a 1,.c (V.str (Str.mk (AE (Ab 3 w)))) (scO σ::hs),.t,.f,.f,.a 2,.w (Fl.next) (St.mk (EQ (c+1) a b (AV (Ab 3 w))) (scO (AL (A9 ws) σ)::hs)),.c (Ai x) (scO (AL (A9 ws) σ)::hs),.f] (an e1 (an (B8 (u:=v) (v:=V.str (Str.mk (AE (Ab 3 w)))) (h:=hv) (h2:=(by rfl))) (an (Gz (l:=Ab 3 w) (n:=q1)) (an (OZ (l:=Ab 3 w) (n:=q2)) (an e2 (an (Bi (ns:=ns) (σ:=AL (A9 ws) σ) (d:=d+2) (hs:=hs) (r:=u) (c:=x) (h:=h2)) (an (LZ (c:=x) (h:=hb)) trivial))))))) (by kernel_rfl)
  |@dash y z hy=>
   have q1:Ab 3 ([45,45,45]++y::z)=[45,45,45]:=rfl
   have e5:AN (S ns) (d+3) 4 [.obj 0,.int 3] [] (scO σ::hs) (Ai y) (scO σ::hs):=Ec h
   exact BC.by [.a 1,.c (V.str (Str.mk (AE (Ab 3 ([45,45,45]++y::z))))) (scO σ::hs),.t,.t,.a 1,.c (Ai y) (scO σ::hs),.f,.a 1,.w (Fl.next) (St.mk (EQ (c+1) a b (AV (Ab 3 ([45,45,45]++y::z)))) (scO (AL (A9 ws) σ)::hs)),.c (Ai x) (scO (AL (A9 ws) σ)::hs),.f] (an e1 (an (B8 (u:=v) (v:=V.str (Str.mk (AE (Ab 3 ([45,45,45]++y::z))))) (h:=hv) (h2:=(by rfl))) (an (K6 (l:=Ab 3 ([45,45,45]++y::z)) (n:=q1)) (an e5 (an (IL (c:=y) (h:=hy)) (an e2 (an (Bi (ns:=ns) (σ:=AL (A9 ws) σ) (d:=d+2) (hs:=hs) (r:=u) (c:=x) (h:=h2)) (an (LZ (c:=x) (h:=hb)) trivial)))))))) (by kernel_rfl)
  |@dots y z hy=>
   have q1:Ab 3 ([46,46,46]++y::z)≠[45,45,45]:=by simp
   have q2:Ab 3 ([46,46,46]++y::z)=[46,46,46]:=rfl
   have e5:AN (S ns) (d+3) 4 [.obj 0,.int 3] [] (scO σ::hs) (Ai y) (scO σ::hs):=Ec h
   exact BC.by [.a 1,.c (V.str (Str.mk (AE (Ab 3 ([46,46,46]++y::z))))) (scO σ::hs),.t,.f,.t,.a 1,.c (Ai y) (scO σ::hs),.f,.a 1,.w (Fl.next) (St.mk (EQ (c+1) a b (AV (Ab 3 ([46,46,46]++y::z)))) (scO (AL (A9 ws) σ)::hs)),.c (Ai x) (scO (AL (A9 ws) σ)::hs),.f] (an e1 (an (B8 (u:=v) (v:=V.str (Str.mk (AE (Ab 3 ([46,46,46]++y::z))))) (h:=hv) (h2:=(by rfl))) (an (Gz (l:=Ab 3 ([46,46,46]++y::z)) (n:=q1)) (an (LS (l:=Ab 3 ([46,46,46]++y::z)) (n:=q2)) (an e5 (an (IL (c:=y) (h:=hy)) (an e2 (an (Bi (ns:=ns) (σ:=AL (A9 ws) σ) (d:=d+2) (hs:=hs) (r:=u) (c:=x) (h:=h2)) (an (LZ (c:=x) (h:=hb)) trivial))))))))) (by kernel_rfl)
 |@more ws b l x t r hws hb hok hrow ih=>
  intro σ hs v xs h hc hf hv
  rw[AB,AB] at h hf
  refine hb.head fun q b' eb hq hl=>?_
  subst eb
  have hx:q∉[32,9]:=JK hq
  have e1:=Ii (ns:=ns) (d:=d+1) (hs:=hs) h (n:=3)
  have e1:AN (S ns) (d+3) 5 [.obj 0,.int 3] [] (scO σ::hs) (.str ⟨((ws++(q::b'++(x++r))).take 3).toArray⟩) (scO σ::hs):=e1
  have e2:=Nw (ns:=ns) (d:=d+1) (c:=c+1) (hs:=hs) (a:=a) (b:=b) (v:=AV ((ws++(q::b'++(x++r))).take 3)) hx hws h
  have h2:=h.skip
  have h2':Rd (AL ws.length σ) (q::(b'++(x++r))):=h2
  have e4:AN (S ns) (d+3) 38 [.obj 0] [] (scO (AL ws.length σ)::hs) (.str ⟨l.toArray⟩) (scO (AL (q::b').length (AL ws.length σ))::hs):=by
   refine AA hrow.rest fun z hr=>AA hr fun u e=>?_
   subst e
   rcases x with _|⟨y,x⟩
   ·exact J5 h2 hb
   ·exact J5 h2 hb
  have h3:=h2.skip
  rw[←B9] at h3 e4
  have hl2:=hb.len
  refine HD (ih (v:=AV ((ws++(q::b'++(x++r))).take 3)) (xs:=xs++[l]) h3 (gs hc) ((hf.drop).app (ys:=[l]) (x:=q::b') (BW ..)) rfl) fun ys v' hy hn zz e5=>?_
  rw[←B9] at e5
  have hxl:=hf.ok
  rw[Fd,Aa,AB] at e5
  refine⟨l::ys,v',by rw[G4,hy],?_,fun e=>(hl (List.append_eq_nil_iff.mp e).1).elim,?_⟩
  ·rw[AQ,AF,AF];exact AM (DD hn hl2.2) (by rw[BY];exact BW ..)
  ·rw[AF,AF,←BP]
   have hx':q∈[13,10,133,8232,8233]:=hq
   generalize hw:ws++(q::b'++(x++r))=w at e1 e2 e5 hok h
   cases hok with
   |no q1 q2=>
    refine BC.go (s1:=St.mk [(A8 "self",V.obj 0),(A8 "double",a),(A8 "start_mark",b),(A8 "chunks",V.obj (c+1)),(A8 "prefix",V.str (Str.mk (AE (Ab 3 w)))),(A8 "ScannerError",V.cls 9)] (scO (AL (A9 ws+(A9 b'+1)) σ)::Bb hs c (O.list (AC AV xs++[V.str (Str.mk (AE l))])))) [.a 1,.c (V.str (Str.mk (AE (Ab 3 w)))) (scO σ::hs),.t,.f,.f,.a 2,.w (Fl.next) (St.mk (EQ (c+1) a b (AV (Ab 3 w))) (scO (AL (A9 ws) σ)::hs)),.c (Ai q) (scO (AL (A9 ws) σ)::hs),.t,.v .ob (O.list (AC AV xs)),.c (V.str (Str.mk (AE l))) (scO (AL (A9 ws+A9 (q::b')) σ)::hs),.v .ob (O.list (AC AV xs)),.t] ?_ (an e1 (an (B8 (u:=v) (v:=V.str (Str.mk (AE (Ab 3 w)))) (h:=hv) (h2:=(by rfl))) (an (Gz (l:=Ab 3 w) (n:=q1)) (an (OZ (l:=Ab 3 w) (n:=q2)) (an e2 (an (Bi (ns:=ns) (σ:=AL (A9 ws) σ) (d:=d+2) (hs:=hs) (r:=b'++(x++r)) (c:=q) (h:=h2')) (an (GG (c:=q) (h:=hq)) (an hc (an e4 (an hc (an hxl trivial))))))))))) (by kernel_rfl)
    exact e5
   |@dash y z hy=>
    have q1:Ab 3 ([45,45,45]++y::z)=[45,45,45]:=rfl
    have e6:AN (S ns) (d+3) 4 [.obj 0,.int 3] [] (scO σ::hs) (Ai y) (scO σ::hs):=Ec h
    refine BC.go (s1:=St.mk [(A8 "self",V.obj 0),(A8 "double",a),(A8 "start_mark",b),(A8 "chunks",V.obj (c+1)),(A8 "prefix",V.str (Str.mk (AE (Ab 3 ([45,45,45]++y::z))))),(A8 "ScannerError",V.cls 9)] (scO (AL (A9 ws+(A9 b'+1)) σ)::Bb hs c (O.list (AC AV xs++[V.str (Str.mk (AE l))])))) [.a 1,.c (V.str (Str.mk (AE (Ab 3 ([45,45,45]++y::z))))) (scO σ::hs),.t,.t,.a 1,.c (Ai y) (scO σ::hs),.f,.a 1,.w (Fl.next) (St.mk (EQ (c+1) a b (AV (Ab 3 ([45,45,45]++y::z)))) (scO (AL (A9 ws) σ)::hs)),.c (Ai q) (scO (AL (A9 ws) σ)::hs),.t,.v .ob (O.list (AC AV xs)),.c (V.str (Str.mk (AE l))) (scO (AL (A9 ws+A9 (q::b')) σ)::hs),.v .ob (O.list (AC AV xs)),.t] ?_ (an e1 (an (B8 (u:=v) (v:=V.str (Str.mk (AE (Ab 3 ([45,45,45]++y::z))))) (h:=hv) (h2:=(by rfl))) (an (K6 (l:=Ab 3 ([45,45,45]++y::z)) (n:=q1)) (an e6 (an (IL (c:=y) (h:=hy)) (an e2 (an (Bi (ns:=ns) (σ:=AL (A9 ws) σ) (d:=d+2) (hs:=hs) (r:=b'++(x++r)) (c:=q) (h:=h2')) (an (GG (c:=q) (h:=hq)) (an hc (an e4 (an hc (an hxl trivial)))))))))))) (by kernel_rfl)
    exact e5
   |@dots y z hy=>
    have q1:Ab 3 ([46,46,46]++y::z)≠[45,45,45]:=by simp
    have q2:Ab 3 ([46,46,46]++y::z)=[46,46,46]:=rfl
    have e6:AN (S ns) (d+3) 4 [.obj 0,.int 3] [] (scO σ::hs) (Ai y) (scO σ::hs):=Ec h
    refine BC.go (s1:=St.mk [(A8 "self",V.obj 0),(A8 "double",a),(A8 "start_mark",b),(A8 "chunks",V.obj (c+1)),(A8 "prefix",V.str (Str.mk (AE (Ab 3 ([46,46,46]++y::z))))),(A8 "ScannerError",V.cls 9)] (scO (AL (A9 ws+(A9 b'+1)) σ)::Bb hs c (O.list (AC AV xs++[V.str (Str.mk (AE l))])))) [.a 1,.c (V.str (Str.mk (AE (Ab 3 ([46,46,46]++y::z))))) (scO σ::hs),.t,.f,.t,.a 1,.c (Ai y) (scO σ::hs),.f,.a 1,.w (Fl.next) (St.mk (EQ (c+1) a b (AV (Ab 3 ([46,46,46]++y::z)))) (scO (AL (A9 ws) σ)::hs)),.c (Ai q) (scO (AL (A9 ws) σ)::hs),.t,.v .ob (O.list (AC AV xs)),.c (V.str (Str.mk (AE l))) (scO (AL (A9 ws+A9 (q::b')) σ)::hs),.v .ob (O.list (AC AV xs)),.t] ?_ (an e1 (an (B8 (u:=v) (v:=V.str (Str.mk (AE (Ab 3 ([46,46,46]++y::z))))) (h:=hv) (h2:=(by rfl))) (an (Gz (l:=Ab 3 ([46,46,46]++y::z)) (n:=q1)) (an (LS (l:=Ab 3 ([46,46,46]++y::z)) (n:=q2)) (an e6 (an (IL (c:=y) (h:=hy)) (an e2 (an (Bi (ns:=ns) (σ:=AL (A9 ws) σ) (d:=d+2) (hs:=hs) (r:=b'++(x++r)) (c:=q) (h:=h2')) (an (GG (c:=q) (h:=hq)) (an hc (an e4 (an hc (an hxl trivial))))))))))))) (by kernel_rfl)
    exact e5
end
noncomputable def MW (ns:List Int)(d f:Nat)(vs:List V)(σ:Sc)(hs:List O)(x t:List Nat):Prop:=
 ∃ys hs',ys.flatten=t∧ys.length≤x.length∧(t=[]→ys=[])∧Um hs hs' ys∧AN (S ns) (d+1) f vs [] (scO σ::hs) (.obj (hs.length+1)) (scO (AL x.length σ)::hs')
noncomputable def cA:Expr:=wT (Bv (C9 36) 2)
noncomputable def cD:List Stmt:=wB (Bv (C9 36) 2)
noncomputable abbrev I4 (c:Nat)(a b:V)(k:Nat):List (Str×V):=[("self",.obj 0),("double",a),("start_mark",b),("chunks",.obj c),("length",.int (k:Int)),("whitespaces",.undef),("ch",.undef),("line_break",.undef),("breaks",.undef),("ScannerError",.cls 9)]
theorem V9 {l:List Nat}(h:l=[10]):decide ((⟨l.toArray⟩:Str)=A8 "\n")=true:=NN (by decide) h
theorem ZK {l:List Nat}(h:l≠[10]):decide ((⟨l.toArray⟩:Str)=A8 "\n")=false:=Ju (by decide) h
noncomputable def FD (l t:List Nat):List Nat:=if l=[10] then(if t=[] then[32] else t) else l++t
theorem XW {a:Nat}:decide (a+1+1≠a+1)=true:=decide_eq_true (Nat.succ_ne_self _)
theorem ZT {l:List V}(h:l≠[]):decide (l.length≠0)=true:=decide_eq_true fun e=>h (By.mp e)
theorem Vv:[V.str (A8 " ")]=[[32]].map AV:=by
 show[V.str (A8 " ")]=[V.str ⟨#[32]⟩]
 rw[of_decide_eq_true ae]
theorem Iq (l t:List Nat):l≠[]→(FD l t=[]→False):=fun hl h=>by
 unfold FD at h
 split at h
 ·split at h
  ·cases h
  ·contradiction
 ·exact hl (List.append_eq_nil_iff.mp h).1
section
variable {ns:List Int}{σ:Sc}{d:Nat}{hs:List O}{r l ws:List Nat}{a b:V}
theorem Pj {x t:List Nat}(hr:F4 x t r)(h:Rd σ (x++r)):MW ns (d+3) 37 [.obj 0,a,b] σ hs x t:=by
 have hlen:=h.len
 refine HD (Zs (ns:=ns) (d:=d) (c:=hs.length) (hs:=hs++[.list []]) (a:=a) (b:=b) (v:=.undef) (xs:=[]) hr h ga (by unfold CZ;rw[BR,CS];exact hlen) rfl) fun ys v' hy hn hne e=>?_
 refine⟨ys,(hs++[O.list []]).set hs.length (.list (([]++ys).map AV)),hy,hn,hne,⟨gs ga,(B5.app hs).up (Ak _)⟩,?_⟩
 exact AN.by [.a 1,.w (Fl.ret (V.obj (A9 hs+1))) (St.mk (EQ (A9 hs+1) a b v') (scO (AL (A9 x) σ)::Bb (hs++[O.list []]) (A9 hs) (O.list (AC AV ys))))] (an e trivial) (by kernel_rfl)
theorem NI {c x:Nat}(hx:x∉[32,9]):∀{ws pre:List Nat},Cf ws→Rd σ (pre++(ws++x::r))→BC (S ns) (d+2) cA cD ⟨I4 c a b pre.length,scO σ::hs⟩ .next ⟨I4 c a b (pre++ws).length,scO σ::hs⟩:=by
 intro ws
 induction ws with
 |nil=>
  intro pre _ h
  rw[AK]
  exact BC.by [.c (Ai x) (scO σ::hs),.f] (an (Ec (ns:=ns) (σ:=σ) (d:=d) (hs:=hs) (x:=pre) (r:=r) (c:=x) (h:=h)) (an (VZ (c:=x) (h:=hx)) trivial)) (by kernel_rfl)
 |cons y ws ih=>
  intro pre hw h
  have hy:=hw y (.head _)
  have e3:=ih (pre:=pre++[y]) (fun z hz=>hw z (.tail _ hz)) (h.as (by simp))
  rw[AB] at e3
  rw[AF (bs:=[y])] at e3
  refine BC.go (s1:=St.mk [(A8 "self",V.obj 0),(A8 "double",a),(A8 "start_mark",b),(A8 "chunks",V.obj c),(A8 "length",V.int (↑(A9 pre+1):Int)),(A8 "whitespaces",V.undef),(A8 "ch",V.undef),(A8 "line_break",V.undef),(A8 "breaks",V.undef),(A8 "ScannerError",V.cls 9)] (scO σ::hs)) [.c (Ai y) (scO σ::hs),.t,.a 1] ?_ (an (Ec (ns:=ns) (σ:=σ) (d:=d) (hs:=hs) (x:=pre) (r:=FL ws (x::r)) (c:=y) (h:=h)) (an (VY (c:=y) (h:=hy)) trivial)) (by kernel_rfl)
  exact e3
theorem M3 {x:Nat}(hws:Cf ws)(hx:x∉[32,9])(hx0:x≠0)(hxb:x∉BRK)(h0:ws≠[])(h:Rd σ (ws++x::r)):MW ns (d+3) 36 [.obj 0,a,b] σ hs ws ws:=by
 have e1:=NI (ns:=ns) (d:=d+2) (hs:=hs++[.list []]) (c:=hs.length+1) (a:=a) (b:=b) hx (pre:=[]) hws h
 have e2:=Jo (ns:=ns) (d:=d+1) (hs:=hs++[.list []]) h
 have e3:=Kc (ns:=ns) (d:=d+1) (hs:=hs++[.list []]) h
 have h2:=h.skip
 have hxb':x∉[13,10,133,8232,8233]:=hxb
 refine⟨[ws],(hs++[O.list []]).set hs.length (O.list [AV ws]),AK _,FP.mpr h0,fun e=>(h0 e).elim,⟨gs ga,(B5.app hs).up (Ak _)⟩,?_⟩
 have z0:BF 0=true:=rfl
 exact AN.by [.a 2,.w (Fl.next) (St.mk (I4 (A9 hs+1) a b (A9 ws)) (scO σ::(hs++[O.list []]))),.c (V.str (Str.mk (AE ws))) (scO σ::(hs++[O.list []])),.a 1,.c (V.none) (scO (AL (A9 ws) σ)::(hs++[O.list []])),.c (Ai x) (scO (AL (A9 ws) σ)::(hs++[O.list []])),.a 1,.f,.f,.v .ob (O.list []),.v .ob (O.list []),.a 1] (an e1 (an e2 (an e3 (an (Bi (ns:=ns) (σ:=AL (A9 ws) σ) (d:=d+2) (hs:=hs++[O.list []]) (r:=r) (c:=x) (h:=h2)) (an (L7 (c:=x) (h:=hx0)) (an (LZ (c:=x) (h:=hxb)) (an (ga (l:=hs) (o:=O.list []) (r:=[])) (an (ga (l:=hs) (o:=O.list []) (r:=[])) trivial)))))))) (by kernel_rfl)
theorem M2 {cc:Nat}{ff:List (Str×V)}{w x t:List Nat}(hws:Cf ws)(hb:DQ w l (x++r))(hr:F4 x t r)(h:Rd σ (ws++(w++(x++r)))):MW ns (d+4) 36 [.obj 0,.bool true,.rcd cc ff] σ hs (ws++(w++x)) (FD l t):=by
 refine hb.head fun q w' eb hq hl=>?_
 subst eb
 have hl2:=hb.len.2
 have hx:q∉[32,9]:=JK hq
 have hx0:q≠0:=fun e=>absurd (e▸hq:0∈BRK) (by decide)
 have hxb:q∈[13,10,133,8232,8233]:=hq
 have e1:=NI (ns:=ns) (d:=d+3) (hs:=hs++[.list []]) (c:=hs.length+1) (a:=.bool true) (b:=.rcd cc ff) hx (pre:=[]) hws h
 have e2:=Jo (ns:=ns) (d:=d+2) (hs:=hs++[.list []]) h
 have e3:=Kc (ns:=ns) (d:=d+2) (hs:=hs++[.list []]) h
 have h2:=h.skip
 have h2':Rd (AL ws.length σ) (q::(w'++(x++r))):=h2
 have e5:AN (S ns) (d+4) 38 [.obj 0] [] (scO (AL ws.length σ)::(hs++[.list []])) (.str ⟨l.toArray⟩) (scO (AL (q::w').length (AL ws.length σ))::(hs++[.list []])):=by
  refine AA hr.rest fun z hr=>AA hr fun u e=>?_
  subst e
  rcases x with _|⟨y,x⟩
  ·exact J5 h2 hb
  ·exact J5 h2 hb
 have h3:=h2.skip
 rw[←B9] at h3 e5
 refine FF (Pj (ns:=ns) (d:=d) (hs:=hs++[.list []]) hr (a:=.bool true) (b:=.rcd cc ff) h3) fun ys h4 hy hn hne cm e6=>?_
 rw[←B9,AF] at e6
 have e6:AN (S ns) (d+4) 37 [.obj 0,.bool true,.rcd cc ff] [] (scO (AL (ws.length+(q::w').length) σ)::(hs++[O.list []])) (.obj (hs.length+1+1)) (scO (AL (ws.length+(q::w').length+x.length) σ)::h4):=e6
 have hlst:h4[hs.length+1]? =some (.list (ys.map AV)):=by have:=cm.lst;rwa [AF] at this
 have hc4:h4[hs.length]? =some (.list []):=cm.ext.get ga
 have f0:CZ [] ((ws++q::w')++(x++r)):=by have:=h.len;unfold CZ;rw[BR,CS,AB];exact this
 have f1:CZ [l] (x++r):=f0.app (ys:=[l]) (by rw[AF];exact AM hl2 (BW ..))
 have hys1:=CZ.ok (f0.drop.app hn)
 have hys2:BF (0+(ys.map AV).length)=true:=CZ.ext f0.drop hn
 have hys3:BF (1+(ys.map AV).length)=true:=CZ.ext (xs:=[l]) f1 hn
 have z0:BF 0=true:=rfl
 have hne1:hs.length≠hs.length+1:=As (Nat.lt_succ_self _)
 rw[show ws.length+(q::w').length+x.length=(ws++(q::w'++x)).length from by rw[AF,AF,BP]] at e6
 have le:∀zs:List (List Nat),zs.length≤1+x.length→zs.length≤(ws++(q::w'++x)).length:=fun zs h=>by rw[AF,AF];exact AM h (AM (Nat.add_le_add_right hl2 _) (BW ..))
 have fin:∀(zs:List (List Nat)) (o:O),Um hs ((h4.set hs.length o).set hs.length (.list (zs.map AV))) zs:=fun zs o=>⟨gs (gs hc4),by rw[Fd];exact((B5.app hs).trans cm.ext).up (Ak _)⟩
 by_cases ql:l=[10]
 ·by_cases qt:t=[]
  ·have hys0:=hne qt
   subst hys0
   have fin':=fin [[32]] (.list [V.str (A8 " ")])
   rw[←Vv] at fin'
   refine⟨[[32]],_,by unfold FD;rw[if_pos ql,if_pos qt];rfl,le [[32]] (BM 1 _),fun e=>(Iq l t hl e).elim,fin',?_⟩
   exact AN.by [.a 2,.w (Fl.next) (St.mk (I4 (A9 hs+1) (V.bool true) (V.rcd cc ff) (A9 ws)) (scO σ::(hs++[O.list []]))),.c (V.str (Str.mk (AE ws))) (scO σ::(hs++[O.list []])),.a 1,.c (V.none) (scO (AL (A9 ws) σ)::(hs++[O.list []])),.c (Ai q) (scO (AL (A9 ws) σ)::(hs++[O.list []])),.a 1,.f,.t,.c (V.str (Str.mk (AE l))) (scO (AL (A9 ws+A9 (q::w')) σ)::(hs++[O.list []])),.a 1,.c (V.obj (A9 hs+1+1)) (scO (AL (A9 (ws++(q::w'++x))) σ)::h4),.a 1,.f,.v .ob (O.list (AC AV [])),.a 2,.v .ob (O.list []),.v .ob (O.list []),.a 1,.v .ob (O.list [V.str (A8 " ")]),.v .ob (O.list [V.str (A8 " ")]),.t,.v .ob (O.list (AC AV [])),.a 1] (an e1 (an e2 (an e3 (an (Bi (ns:=ns) (σ:=AL (A9 ws) σ) (d:=d+3) (hs:=hs++[O.list []]) (r:=w'++(x++r)) (c:=q) (h:=h2')) (an (L7 (c:=q) (h:=hx0)) (an (GG (c:=q) (h:=hq)) (an e5 (an e6 (an (congrArg not (V9 (l:=l) (h:=ql))) (an hlst (an hc4 (an hc4 (an (gs (o':=O.list [V.str (A8 " ")]) hc4) (an (gs (o':=O.list [V.str (A8 " ")]) hc4) (an (XW (a:=A9 hs)) (an (gn (m:=A9 hs) (o':=O.list [V.str (A8 " ")]) hne1 hlst) trivial)))))))))))))))) (by kernel_rfl)
  ·have hys0:ys.map AV≠[]:=fun q=>qt (by rw[←hy,List.map_eq_nil_iff.mp q];rfl)
   have fin':=fin ys (.list (ys.map AV))
   rw[Fd] at fin'
   refine⟨ys,_,by unfold FD;rw[if_pos ql,if_neg qt];exact hy,le ys (AM hn (BW ..)),fun e=>(Iq l t hl e).elim,fin',?_⟩
   exact AN.by [.a 2,.w (Fl.next) (St.mk (I4 (A9 hs+1) (V.bool true) (V.rcd cc ff) (A9 ws)) (scO σ::(hs++[O.list []]))),.c (V.str (Str.mk (AE ws))) (scO σ::(hs++[O.list []])),.a 1,.c (V.none) (scO (AL (A9 ws) σ)::(hs++[O.list []])),.c (Ai q) (scO (AL (A9 ws) σ)::(hs++[O.list []])),.a 1,.f,.t,.c (V.str (Str.mk (AE l))) (scO (AL (A9 ws+A9 (q::w')) σ)::(hs++[O.list []])),.a 1,.c (V.obj (A9 hs+1+1)) (scO (AL (A9 (ws++(q::w'++x))) σ)::h4),.a 1,.f,.v .ob (O.list (AC AV ys)),.t,.f,.v .ob (O.list []),.v .ob (O.list []),.t,.v .ob (O.list (AC AV ys)),.t] (an e1 (an e2 (an e3 (an (Bi (ns:=ns) (σ:=AL (A9 ws) σ) (d:=d+3) (hs:=hs++[O.list []]) (r:=w'++(x++r)) (c:=q) (h:=h2')) (an (L7 (c:=q) (h:=hx0)) (an (GG (c:=q) (h:=hq)) (an e5 (an e6 (an (congrArg not (V9 (l:=l) (h:=ql))) (an hlst (an hys1 (an (congrArg not (ZT (l:=AC AV ys) (h:=hys0))) (an hc4 (an hc4 (an (XW (a:=A9 hs)) (an hlst (an hys2 trivial))))))))))))))))) (by kernel_rfl)
 ·refine⟨l::ys,_,by unfold FD;rw[if_neg ql,G4,hy],le (l::ys) (by rw[AQ,BY];exact FO hn 1),fun e=>(Iq l t hl e).elim,fin (l::ys) (.list [AV l]),?_⟩
  exact AN.by [.a 2,.w (Fl.next) (St.mk (I4 (A9 hs+1) (V.bool true) (V.rcd cc ff) (A9 ws)) (scO σ::(hs++[O.list []]))),.c (V.str (Str.mk (AE ws))) (scO σ::(hs++[O.list []])),.a 1,.c (V.none) (scO (AL (A9 ws) σ)::(hs++[O.list []])),.c (Ai q) (scO (AL (A9 ws) σ)::(hs++[O.list []])),.a 1,.f,.t,.c (V.str (Str.mk (AE l))) (scO (AL (A9 ws+A9 (q::w')) σ)::(hs++[O.list []])),.a 1,.c (V.obj (A9 hs+1+1)) (scO (AL (A9 (ws++(q::w'++x))) σ)::h4),.a 1,.t,.v .ob (O.list []),.v .ob (O.list []),.a 1,.v .ob (O.list [V.str (Str.mk (AE l))]),.v .ob (O.list [V.str (Str.mk (AE l))]),.t,.v .ob (O.list (AC AV ys)),.t] (an e1 (an e2 (an e3 (an (Bi (ns:=ns) (σ:=AL (A9 ws) σ) (d:=d+3) (hs:=hs++[O.list []]) (r:=w'++(x++r)) (c:=q) (h:=h2')) (an (L7 (c:=q) (h:=hx0)) (an (GG (c:=q) (h:=hq)) (an e5 (an e6 (an (congrArg not (ZK (l:=l) (h:=ql))) (an hc4 (an hc4 (an (gs (o':=O.list [V.str (Str.mk (AE l))]) hc4) (an (gs (o':=O.list [V.str (Str.mk (AE l))]) hc4) (an (XW (a:=A9 hs)) (an (gn (m:=A9 hs) (o':=O.list [V.str (Str.mk (AE l))]) hne1 hlst) (an hys3 trivial)))))))))))))))) (by kernel_rfl)
end
noncomputable def OT:List (Nat×Nat):=[(48,0),(97,7),(98,8),(116,9),(9,9),(110,10),(118,11),(102,12),(114,13),(101,27),(32,32),(34,34),(92,92),(47,47),(78,133),(95,160),(76,8232),(80,8233)]
noncomputable def esc (e:Nat):Option Nat:=OT.lookup e
noncomputable def Ao:List (Nat×Nat):=[(120,2),(117,4),(85,8)]
noncomputable def Cz (e:Nat):Option Nat:=Ao.lookup e
noncomputable def dT (n:Nat):List (V×V):=(oD (KS n)).getD []
theorem Gv {f:Nat→V}(e:Nat):∀L:List (Nat×Nat),EK D7 ⟨#[e]⟩ (L.map fun p=>(Ai p.1,f p.2))=some ((L.lookup e).map f)
 |[]=>rfl
 |(a,b)::L=>by
  have ih:=Gv (f:=f) e L
  rw[An,Jx]
  show(if(⟨#[a]⟩:Str)=⟨#[e]⟩ then _ else _)=_
  rw[Bc]
  by_cases q:a=e
  ·subst q
   simp
  ·rw[if_neg (fun z=>q (by rw[FA] at z;exact(Bj z).1)),beq_eq_false_iff_ne.mpr (DS q)]
   exact ih
theorem VU:dT 0=OT.map fun p=>(Ai p.1,Ai p.2):=by kernel_rfl
theorem VT:dT 1=Ao.map fun p=>(Ai p.1,V.int (p.2:Int)):=by kernel_rfl
theorem ZS {e v:Nat}(h:esc e=some v):CW (Ai e) (dT 0)=some (some (Ai v)):=by
 have z:CW (Ai e) (dT 0)=EK D7 ⟨#[e]⟩ (dT 0):=by rw[VU];rfl
 rw[z,VU,Gv]
 have h:OT.lookup e=some v:=h
 rw[h];rfl
theorem JN {e:Nat}(h:esc e=none):CW (Ai e) (dT 0)=some none:=by
 have z:CW (Ai e) (dT 0)=EK D7 ⟨#[e]⟩ (dT 0):=by rw[VU];rfl
 rw[z,VU,Gv]
 have h:OT.lookup e=none:=h
 rw[h];rfl
theorem VD {e v:Nat}(h:Cz e=some v):CW (Ai e) (dT 1)=some (some (.int (v:Int))):=by
 have z:CW (Ai e) (dT 1)=EK D7 ⟨#[e]⟩ (dT 1):=by rw[VT];rfl
 rw[z,VT,Gv (f:=fun n=>V.int (n:Int))]
 have h:Ao.lookup e=some v:=h
 rw[h];rfl
theorem O8 {e:Nat}(h:Cz e=none):CW (Ai e) (dT 1)=some none:=by
 have z:CW (Ai e) (dT 1)=EK D7 ⟨#[e]⟩ (dT 1):=by rw[VT];rfl
 rw[z,VT,Gv (f:=fun n=>V.int (n:Int))]
 have h:Ao.lookup e=none:=h
 rw[h];rfl
noncomputable def NB:List Stmt:=wB (Bv (C9 35) 1)
noncomputable def Yj:Expr:=wT (Bv (C9 35) 1)
noncomputable def Yr:List Stmt:=NB.take 4
noncomputable def Jh:List Stmt:=NB.drop 4
noncomputable def bS:Expr:=wT (Bv NB 1)
noncomputable def be:List Stmt:=wB (Bv NB 1)
noncomputable abbrev Cd (c:Nat)(b L CH K CO:V):List (Str×V):=[("self",.obj 0),("double",.bool true),("start_mark",b),("chunks",.obj c),("length",L),("ch",CH),("k",K),("code",CO),("range",.ty "range"),("ScannerError",.cls 9),("int",.ty "int"),("chr",.bi "chr")]
noncomputable abbrev GO:List Nat:=[39,34,92,0,32,9,13,10,133,8232,8233]
noncomputable def Dx (run:List Nat):List (List Nat):=if run=[] then[] else[run]
theorem Mi (run:List Nat):(Dx run).flatten=run:=by
 unfold Dx
 split
 ·rename_i e;rw[e];rfl
 ·simp
theorem V6 {n:Nat}(h:n≤8):BF ((n:Int).natAbs)=true:=At (AM h (by decide))
theorem PL {a b:Nat}(h:a≠b):decide (a+1≠b+1)=true:=decide_eq_true fun e=>h (Nat.succ.inj e)
theorem aq {n:Nat}(h:0<n):decide ((n:Int)≠0)=true:=decide_eq_true (by lia)
theorem Hk {e n:Nat}(he:Cz e=some n):esc e=none∧0<n∧n≤8:=by
 have:(e=120∧n=2)∨(e=117∧n=4)∨(e=85∧n=8):=by
  unfold Cz Ao at he
  simp only[Bc,List.lookup_nil] at he
  by_cases q1:e=120
  ·subst q1;simp at he;exact .inl ⟨rfl,he.symm⟩
  ·by_cases q2:e=117
   ·subst q2;simp at he;exact .inr (.inl ⟨rfl,he.symm⟩)
   ·by_cases q3:e=85
    ·subst q3;simp at he;exact .inr (.inr ⟨rfl,he.symm⟩)
    ·rw[beq_eq_false_iff_ne.mpr q1,beq_eq_false_iff_ne.mpr q2,beq_eq_false_iff_ne.mpr q3] at he
     cases he
 rcases this with⟨rfl,rfl⟩|⟨rfl,rfl⟩|⟨rfl,rfl⟩<;>decide
theorem GR {x:Nat}(h:x∈BRK):esc x=none∧Cz x=none:=(show ∀x∈BRK,esc x=none∧Cz x=none by decide) x h
noncomputable abbrev HEX:List Nat:=[48,49,50,51,52,53,54,55,56,57,65,66,67,68,69,70,97,98,99,100,101,102]
theorem Q4 {j n:Nat}(h:j<n):some (if(0:Int)+(j:Int)<(n:Int) then some (V.int (0+(j:Int))) else none)=some (some (V.int (j:Int))):=by
 rw[if_pos (by lia),Int.zero_add]
theorem ZB {j n:Nat}(h:n≤j):some (if(0:Int)+(j:Int)<(n:Int) then some (V.int (0+(j:Int))) else none)=some none:=by
 rw[if_neg (by lia)]
noncomputable def a9:Stmt:=Bv (wB (Bv (wE (Bv (wB (Bv (wE (Bv (wE (Bv Jh 0)) 0)) 0)) 2)) 0)) 2
noncomputable def Sr:Expr:=wT a9
noncomputable def Sq:List Stmt:=wB a9
section
variable {ns:List Int}{σ:Sc}{c d:Nat}{hs:List O}{r:List Nat}{b L CH K CO:V}
theorem ZA {x:Nat}(hx:x∈GO):∀{ws pre:List Nat},(∀y∈ws,y∉GO)→Rd σ (pre++(ws++x::r))→
  BC (S ns) (d+2) bS be ⟨Cd c b (.int (pre.length:Int)) CH K CO,scO σ::hs⟩ .next ⟨Cd c b (.int ((pre++ws).length:Int)) CH K CO,scO σ::hs⟩:=by
 intro ws
 induction ws with
 |nil=>
  intro pre _ h
  rw[AK]
  exact BC.by [.c (Ai x) (scO σ::hs),.f] (an (Ec (ns:=ns) (σ:=σ) (d:=d) (hs:=hs) (x:=pre) (r:=r) (c:=x) (h:=h)) (an (congrArg not (X4 (c:=x) (h:=hx))) trivial)) (by kernel_rfl)
 |cons y ws ih=>
  intro pre hw h
  have hy:=hw y (.head _)
  have e3:=ih (pre:=pre++[y]) (fun z hz=>hw z (.tail _ hz)) (h.as (by simp))
  rw[AB] at e3
  rw[AF (bs:=[y])] at e3
  refine BC.go (s1:=St.mk [(A8 "self",V.obj 0),(A8 "double",V.bool true),(A8 "start_mark",b),(A8 "chunks",V.obj c),(A8 "length",V.int (↑(A9 pre+1):Int)),(A8 "ch",CH),(A8 "k",K),(A8 "code",CO),(A8 "range",V.ty "range"),(A8 "ScannerError",V.cls 9),(A8 "int",V.ty "int"),(A8 "chr",V.bi "chr")] (scO σ::hs)) [.c (Ai y) (scO σ::hs),.t,.a 1] ?_ (an (Ec (ns:=ns) (σ:=σ) (d:=d) (hs:=hs) (x:=pre) (r:=FL ws (x::r)) (c:=y) (h:=h)) (an (congrArg not (X5 (c:=y) (h:=hy))) trivial)) (by kernel_rfl)
  exact e3
theorem NL {run:List Nat}{x:Nat}{xs:List (List Nat)}(hcx:hs[c]? =some (.list (xs.map AV)))(hf:CZ xs (run++x::r))(hL:Az L=true)(hCH:Az CH=true)(hrun:∀y∈run,y∉GO)(hx:x∈GO)(h:Rd σ (run++x::r)):
  CR (S ns) (d+4) Yr ⟨Cd (c+1) b L CH K CO,scO σ::hs⟩ .next ⟨Cd (c+1) b (.int (run.length:Int)) (Ai x) K CO,scO (AL run.length σ)::hs.set c (.list ((xs++Dx run).map AV))⟩:=by
 have e1:=ZA (ns:=ns) (σ:=σ) (d:=d+2) (c:=c+1) (hs:=hs) (b:=b) (CH:=CH) (K:=K) (CO:=CO) hx (pre:=[]) hrun h
 have hxl:=hf.ok
 by_cases q:run=[]
 ·subst q
  have h:Rd σ (x::r):=h
  rw[show Dx []=[] from rfl,AK,Kx hcx,show AL (A9 (α:=Nat) []) σ=σ from rfl]
  exact CR.by [.t,.w (Fl.next) (St.mk (Cd (c+1) b (V.int (↑0:Int)) CH K CO) (scO σ::hs)),.a 1,.c (Ai x) (scO σ::hs),.t] (an (B8 (u:=L) (v:=V.int 0) (h:=hL) (h2:=(by rfl))) (an e1 (an (Bi (ns:=ns) (σ:=σ) (d:=d+2) (hs:=hs) (r:=r) (c:=x) (h:=h)) (an (B8 (u:=CH) (v:=Ai x) (h:=hCH) (h2:=(by rfl))) trivial)))) (by kernel_rfl)
 ·have e2:=Jo (ns:=ns) (d:=d+1) (hs:=hs) h
  have e3:=Kc (ns:=ns) (d:=d+1) (hs:=hs.set c (.list (xs.map AV++[AV run]))) h
  have h2:=h.skip
  have hpos:0<run.length:=FP.mpr q
  rw[show Dx run=[run] from if_neg q,Aa]
  exact CR.by [.t,.w (Fl.next) (St.mk (Cd (c+1) b (V.int (↑(A9 run):Int)) CH K CO) (scO σ::hs)),.t,.v .ob (O.list (AC AV xs)),.c (V.str (Str.mk (AE run))) (scO σ::hs),.v .ob (O.list (AC AV xs)),.t,.c (V.none) (scO (AL (A9 run) σ)::Bb hs c (O.list (AC AV xs++[AV run]))),.c (Ai x) (scO (AL (A9 run) σ)::Bb hs c (O.list (AC AV xs++[AV run]))),.t] (an (B8 (u:=L) (v:=V.int 0) (h:=hL) (h2:=(by rfl))) (an e1 (an (aq (n:=A9 run) (h:=hpos)) (an hcx (an e2 (an hcx (an hxl (an e3 (an (Bi (ns:=ns) (σ:=AL (A9 run) σ) (d:=d+2) (hs:=Bb hs c (O.list (AC AV xs++[AV run]))) (r:=r) (c:=x) (h:=h2)) (an (B8 (u:=CH) (v:=Ai x) (h:=hCH) (h2:=(by rfl))) trivial)))))))))) (by kernel_rfl)
theorem Za {hx pre:List Nat}:∀{K:V},Az K=true→(∀y∈hx,y∈HEX)→∀{y:Nat},Rd σ (pre++(hx++y::r))→
  ∃K',Az K'=true∧BK (S ns) (d+2) Sr (.rng 0 ((pre++hx).length:Int)) pre.length Sq ⟨Cd c b L CH K CO,scO σ::hs⟩ .next ⟨Cd c b L CH K' CO,scO σ::hs⟩:=by
 induction hx generalizing pre with
 |nil=>
  intro K hK _ y _
  rw[AK]
  have hj:=Ak pre.length
  refine⟨K,hK,?_⟩
  exact BK.by [.v .oval (none)] (an (ZB (j:=A9 pre) (n:=A9 pre) (h:=hj)) trivial) (by kernel_rfl)
 |cons z hx ih=>
  intro K hK hh y h
  refine AR (ih (pre:=pre++[z]) (K:=.int (pre.length:Int)) rfl (fun q hq=>hh q (.tail _ hq)) (y:=y) (h.as (by simp))) fun K' hK' e=>?_
  rw[AB,AF (bs:=[z])] at e
  have e:BK (S ns) (d+2) Sr (.rng 0 ((pre++z::hx).length:Int)) (pre.length+1) Sq ⟨Cd c b L CH (.int (pre.length:Int)) CO,scO σ::hs⟩ .next ⟨Cd c b L CH K' CO,scO σ::hs⟩:=e
  have hz:=hh z (.head _)
  have hj:pre.length<(pre++z::hx).length:=by rw[AF,AQ];lia
  refine⟨K',hK',?_⟩
  refine BK.go (s1:=St.mk [(A8 "self",V.obj 0),(A8 "double",V.bool true),(A8 "start_mark",b),(A8 "chunks",V.obj c),(A8 "length",L),(A8 "ch",CH),(A8 "k",V.int (↑(A9 pre):Int)),(A8 "code",CO),(A8 "range",V.ty "range"),(A8 "ScannerError",V.cls 9),(A8 "int",V.ty "int"),(A8 "chr",V.bi "chr")] (scO σ::hs)) [.v .oval (some (V.int (↑(A9 pre):Int))),.t,.c (Ai z) (scO σ::hs),.f] ?_ (an (Q4 (j:=A9 pre) (n:=A9 (pre++z::hx)) (h:=hj)) (an (B8 (u:=K) (v:=V.int (↑(A9 pre):Int)) (h:=hK) (h2:=(by rfl))) (an (Ec (ns:=ns) (σ:=σ) (d:=d) (hs:=hs) (x:=pre) (r:=FL hx (y::r)) (c:=z) (h:=h)) (an (congrArg not (VN (c:=z) (h:=hz))) trivial)))) (by kernel_rfl)
  exact e
theorem Qu {x:Nat}(h1:x≠39)(h2:x≠92):CR (S ns) (d+5) Jh ⟨Cd (c+1) b L (Ai x) K CO,scO σ::hs⟩ (.ret (.obj (c+1))) ⟨Cd (c+1) b L (Ai x) K CO,scO σ::hs⟩:=by
 exact CR.by [.a 3,.f,.a 5,.f,.a 1] (an (ad (c:=x) (h:=h1)) (an (Ua (c:=x) (h:=h2)) trivial)) (by kernel_rfl)
noncomputable def Ib (ns:List Int)(d c:Nat)(b L:V)(K CO:V)(σ:Sc)(hs:List O)(x:Nat)(n:Nat)(zs:List (List Nat)):Prop:=
 ∃hs' L' CH' K' CO',B5 hs hs'∧Az L'=true∧Az CH'=true∧Az K'=true∧Az CO'=true∧CR (S ns) (d+5) Jh ⟨Cd (c+1) b L (Ai x) K CO,scO σ::hs⟩ .next ⟨Cd (c+1) b L' CH' K' CO',scO (AL n σ)::hs'.set c (.list (zs.map AV))⟩
theorem Q7 {xs:List (List Nat)}{y:List Nat}:xs.map AV++[AV y]=(xs++[y]).map AV:=by rw[Aa];rfl
theorem Mc {xs:List (List Nat)}{y:Nat}(hc:hs[c]? =some (.list (xs.map AV)))(hX:BF (xs.map AV).length=true)(hL:Az L=true)(hK:Az K=true)(hCO:Az CO=true)(h:Rd σ (39::y::r)):Ib ns d c b L K CO σ hs 39 1 (xs++[[39]]):=by
 have e1:=EW (ns:=ns) (d:=d+2) (hs:=hs.set c (.list (xs.map AV++[Ai 39]))) h
 refine⟨hs,L,Ai 39,K,CO,B5.refl _,hL,rfl,hK,hCO,?_⟩
 rw[←Q7]
 exact CR.by [.a 6,.v .ob (O.list (AC AV xs)),.v .ob (O.list (AC AV xs)),.t,.c (V.none) (scO (AL 1 σ)::Bb hs c (O.list (AC AV xs++[Ai 39])))] (an hc (an hc (an hX (an e1 trivial)))) (by kernel_rfl)
theorem Ni {xs:List (List Nat)}{e v y:Nat}(he:esc e=some v)(hc:hs[c]? =some (.list (xs.map AV)))(hX:BF (xs.map AV).length=true)(hL:Az L=true)(hK:Az K=true)(hCO:Az CO=true)(h:Rd σ (92::e::y::r)):Ib ns d c b L K CO σ hs 92 2 (xs++[[v]]):=by
 have e1:=EW (ns:=ns) (d:=d+2) (hs:=hs) h
 have h1:=h.next
 have e3:=EW (ns:=ns) (d:=d+2) (hs:=hs.set c (.list (xs.map AV++[Ai v]))) h1
 rw[←B9] at e3
 refine⟨hs,L,Ai e,K,CO,B5.refl _,hL,rfl,hK,hCO,?_⟩
 rw[←Q7]
 have k1:=ZS he
 exact CR.by [.a 11,.c (V.none) (scO (AL 1 σ)::hs),.c (Ai e) (scO (AL 1 σ)::hs),.a 1,.v .oval (some (Ai v)),.a 1,.v .ob (O.list (AC AV xs)),.v .oval (some (Ai v)),.a 1,.v .ob (O.list (AC AV xs)),.t,.c (V.none) (scO (AL (1+1) σ)::Bb hs c (O.list (AC AV xs++[Ai v])))] (an e1 (an (Bi (ns:=ns) (σ:=AL 1 σ) (d:=d+3) (hs:=hs) (r:=y::r) (c:=e) (h:=h1)) (an k1 (an hc (an k1 (an hc (an hX (an e3 trivial)))))))) (by kernel_rfl)
theorem Mb {xs:List (List Nat)}{e n v y:Nat}{hx:List Nat}(he:Cz e=some n)(hn:hx.length=n)(hh:∀y∈hx,y∈HEX)(hv:EB hx 0=some v)(hv2:v<1114112)(hc:hs[c]? =some (.list (xs.map AV)))(hX:BF (xs.map AV).length=true)(hL:Az L=true)(hK:Az K=true)(hCO:Az CO=true)(h:Rd σ (92::e::(hx++y::r))):Ib ns d c b L K CO σ hs 92 (2+hx.length) (xs++[[v]]):=by
 obtain⟨hne,hn0,hn8⟩:=Hk he
 subst hn
 have e1:=EW (ns:=ns) (d:=d+2) (hs:=hs) h
 have h1:=h.next
 have e3:AN (S ns) (d+4) 6 [.obj 0] [] (scO (AL 1 σ)::hs) .none (scO (AL 1 (AL 1 σ))::hs):=by
  rcases hx with _|⟨z,hx⟩
  ·exact EW h1
  ·exact EW h1
 have h2:=h1.next
 rw[←B9] at e3 h2
 refine AR (Za (ns:=ns) (d:=d+3) (c:=c+1) (hs:=hs) (b:=b) (L:=.int (hx.length:Int)) (CH:=Ai e) (CO:=CO) (pre:=[]) hK hh h2) fun K' hK' e4=>?_
 have e5:=Jo (ns:=ns) (d:=d+2) (hs:=hs) h2
 have e6:=Kc (ns:=ns) (d:=d+2) (hs:=hs.set c (.list (xs.map AV++[Ai v]))) h2
 rw[←B9] at e6
 refine⟨hs,.int (hx.length:Int),Ai e,K',.int (v:Int),B5.refl _,rfl,rfl,hK',rfl,?_⟩
 rw[←Q7]
 have k1:=JN hne
 have k2:=VD he
 have k3:decide ((16:Int)=16∧0<hx.length∧hx.length≤8)=true:=decide_eq_true ⟨rfl,hn0,hn8⟩
 have k4:decide ((0:Int)≤(v:Int)∧(v:Int)<1114112)=true:=decide_eq_true ⟨Ck _,Ff.mpr hv2⟩
 exact CR.by [.a 11,.c (V.none) (scO (AL 1 σ)::hs),.c (Ai e) (scO (AL 1 σ)::hs),.a 1,.v .oval (none),.a 1,.v .oval (some (V.int (↑(A9 hx):Int))),.a 1,.v .oval (some (V.int (↑(A9 hx):Int))),.a 1,.t,.c (V.none) (scO (AL (1+1) σ)::hs),.t,.t,.w (Fl.next) (St.mk (Cd (c+1) b (V.int (↑(A9 hx):Int)) (Ai e) K' CO) (scO (AL (1+1) σ)::hs)),.c (V.str (Str.mk (AE hx))) (scO (AL (1+1) σ)::hs),.t,.v .nat (v),.t,.v .ob (O.list (AC AV xs)),.t,.v .ob (O.list (AC AV xs)),.t,.c (V.none) (scO (AL (1+1+A9 hx) σ)::Bb hs c (O.list (AC AV xs++[Ai v])))] (an e1 (an (Bi (ns:=ns) (σ:=AL 1 σ) (d:=d+3) (hs:=hs) (r:=hx++y::r) (c:=e) (h:=h1)) (an k1 (an k2 (an k2 (an (B8 (u:=L) (v:=V.int (↑(A9 hx):Int)) (h:=hL) (h2:=(by rfl))) (an e3 (an (V6 (n:=A9 hx) (h:=hn8)) (an (V6 (n:=A9 hx) (h:=hn8)) (an e4 (an e5 (an k3 (an hv (an (B8 (u:=CO) (v:=V.int (↑v:Int)) (h:=hCO) (h2:=(by rfl))) (an hc (an k4 (an hc (an hX (an e6 trivial))))))))))))))))))) (by kernel_rfl)
theorem Ma {cc:Nat}{ff:List (Str×V)}{xs:List (List Nat)}{w w' l x t:List Nat}{q:Nat}(hb:DQ w l (x++r))(hr:F4 x t r)(hw:w=q::w')(hc:hs[c]? =some (.list (xs.map AV)))(hf:CZ xs (92::w++(x++r)))(hL:Az L=true)(hK:Az K=true)(hCO:Az CO=true)(h:Rd σ (92::(w++(x++r)))):
  ∃ys,ys.flatten=t∧ys.length≤x.length∧Ib ns d c (.rcd cc ff) L K CO σ hs 92 (1+w.length+x.length) (xs++ys):=by
 subst hw
 refine hb.head fun q0 w0 eb hq hl=>?_
 cases eb
 have e1:=EW (ns:=ns) (d:=d+2) (hs:=hs) h
 have h1:Rd (AL 1 σ) (q::w'++(x++r)):=h.next
 have h1':Rd (AL 1 σ) (q::(w'++(x++r))):=h1
 have e3:AN (S ns) (d+4) 38 [.obj 0] [] (scO (AL 1 σ)::hs) (.str ⟨l.toArray⟩) (scO (AL (q::w').length (AL 1 σ))::hs):=by
  refine AA hr.rest fun z hr=>AA hr fun u e=>?_
  subst e
  rcases x with _|⟨y,x⟩
  ·exact J5 h1 hb
  ·exact J5 h1 hb
 have h2:=h1.skip
 rw[←B9] at e3 h2
 refine FF (Pj (ns:=ns) (d:=d) (hs:=hs) hr (a:=.bool true) (b:=.rcd cc ff) h2) fun ys h4 hy hn zz cm e4=>?_
 rw[←B9] at e4
 have hlst:=cm.lst
 have hc4:=cm.ext.get hc
 refine⟨ys,hy,hn,h4,L,Ai q,K,CO,cm.ext,hL,rfl,hK,hCO,?_⟩
 have k1:=JN (GR hq).1
 have k2:=O8 (GR hq).2
 have hsz:=hf.drop.ext hn
 have hne2:hs.length≠c:=fun e=>absurd (AI.mp hc).1 (by rw[e];exact CD _)
 have hq':q∈[13,10,133,8232,8233]:=hq
 rw[Aa]
 exact CR.by [.a 11,.c (V.none) (scO (AL 1 σ)::hs),.c (Ai q) (scO (AL 1 σ)::hs),.a 1,.v .oval (none),.a 1,.v .oval (none),.a 1,.t,.c (V.str (Str.mk (AE l))) (scO (AL (1+A9 (q::w')) σ)::hs),.v .ob (O.list (AC AV xs)),.c (V.obj (A9 hs+1)) (scO (AL (1+A9 (q::w')+A9 x) σ)::h4),.v .ob (O.list (AC AV xs)),.t,.v .ob (O.list (AC AV ys)),.t] (an e1 (an (Bi (ns:=ns) (σ:=AL 1 σ) (d:=d+3) (hs:=hs) (r:=w'++(x++r)) (c:=q) (h:=h1')) (an k1 (an k2 (an (GG (c:=q) (h:=hq)) (an e3 (an hc (an e4 (an hc4 (an (PL (a:=A9 hs) (b:=c) (h:=hne2)) (an hlst (an hsz trivial)))))))))))) (by kernel_rfl)
end
noncomputable abbrev EM (run:List Nat):Prop:=∀y∈run,y∉GO
inductive E8:List Nat→List Nat→List Nat→Prop
 |stop {run:List Nat} {x:Nat} {u:List Nat}:EM run→x∈GO→x≠39→x≠92→E8 run run (x::u)
 |apos {run x t r:List Nat}:EM run→E8 x t r→E8 (run++39::x) (run++39::t) r
 |esc {run x t r:List Nat} {e v:Nat}:EM run→esc e=some v→E8 x t r→E8 (run++92::e::x) (run++v::t) r
 |code {run hx x t r:List Nat} {e n v:Nat}:EM run→Cz e=some n→hx.length=n→(∀y∈hx,y∈HEX)→EB hx 0=some v→v<1114112→E8 x t r→E8 (run++92::e::(hx++x)) (run++v::t) r
 |line {run w l y t1 x t r:List Nat}:EM run→DQ w l (y++(x++r))→F4 y t1 (x++r)→E8 x t r→E8 (run++92::(w++(y++x))) (run++(t1++t)) r
theorem E8.rest {x t r:List Nat}(h:E8 x t r):∃c u,r=c::u:=by
 induction h with
 |stop=>exact⟨_,_,rfl⟩
 |apos _ _ ih=>exact ih
 |esc _ _ _ ih=>exact ih
 |code _ _ _ _ _ _ _ ih=>exact ih
 |line _ _ _ _ ih=>exact ih
theorem Gd {x r:List Nat}(h:∃c u,r=c::u):∃c u,x++r=c::u:=by
 refine AA h fun c h=>AA h fun u e=>?_
 subst e
 rcases x with _|⟨a,x⟩
 ·exact⟨c,u,rfl⟩
 ·exact⟨a,_,rfl⟩
noncomputable def CY (c:Nat)(h h':List O):Prop:=h.length≤h'.length∧(∀j,j≠c→j<h.length→h'[j]? =h[j]?)∧(DY h→DY h')
theorem CY.trans {c:Nat}{a b e:List O}(x:CY c a b)(y:CY c b e):CY c a e:=⟨AM x.1 y.1,fun j h2 h3=>(y.2.1 j h2 (Am h3 x.1)).trans (x.2.1 j h2 h3),fun n=>y.2.2 (x.2.2 n)⟩
theorem CY.setc {c:Nat}(h:List O){o:O}(ho:Eg o=true:=by rfl):CY c h (h.set c o):=⟨by rw[D0];exact Ak _,fun j h1 zz=>B7 (DS h1),fun n=>n.set ho⟩
theorem CY.refl (c:Nat)(h:List O):CY c h h:=⟨Ak _,fun zz zz zz=>rfl,id⟩
theorem B5.keep {c:Nat}{h h':List O}(x:B5 h h'):CY c h h':=⟨x.1,fun j zz h3=>x.2.1 j h3,x.2.2⟩
theorem CY.ext {h h':List O}{o:O}(x:CY h.length (h++[o]) h')(ho:Eg o=true:=by rfl):B5 h h':=by
 have e:=B5.app h ho
 exact⟨AM e.1 x.1,fun j h2=>(x.2.1 j (As h2) (Am h2 e.1)).trans (e.2.1 j h2),fun n=>x.2.2 (e.2.2 n)⟩
theorem Dw (run:List Nat):(Dx run).length≤run.length:=by
 unfold Dx
 split
 ·exact BX _
 ·exact FP.mpr ‹_›
theorem Lp:Yr++Jh=NB:=DF 4 NB
noncomputable def Uj (ns:List Int)(d c:Nat)(b L CH K CO:V)(σ:Sc)(hs:List O)(xs:List (List Nat))(x t:List Nat):Prop:=
 ∃ys hs' l',ys.flatten=t∧ys.length≤x.length∧hs'[c]? =some (.list ((xs++ys).map AV))∧CY c hs hs'∧BC (S ns) (d+5) Yj NB ⟨Cd (c+1) b L CH K CO,scO σ::hs⟩ (.ret (.obj (c+1))) ⟨l',scO (AL x.length σ)::hs'⟩
section
variable {ns:List Int}{c d:Nat}{cc:Nat}{ff:List (Str×V)}
theorem Ks {s:St}(k:Bool→St→Ay)(e:V→St→Ay):(E (S ns) 40).tr (d+5) Yj s k e=k true s:=by kernel_rfl
theorem Ku {σ:Sc}{hs:List O}{L CH K CO:V}{xs ys2:List (List Nat)}{run m x t t2 r:List Nat}{q:Nat}(hc:hs[c]? =some (.list (xs.map AV)))(hf:CZ xs (run++(q::m++(x++r))))(hL:Az L=true)(hCH:Az CH=true)(hrun:EM run)(hq:q∈GO)(h:Rd σ (run++(q::m++(x++r))))
  (T:Ib ns d c (.rcd cc ff) (.int (run.length:Int)) K CO (AL run.length σ) (hs.set c (.list ((xs++Dx run).map AV))) q (q::m).length (xs++Dx run++ys2))(f2:ys2.flatten=t2)(l2:ys2.length≤(q::m).length)
  (ih:∀{σ:Sc} {hs:List O} {L CH K CO:V} {xs:List (List Nat)},hs[c]? =some (.list (xs.map AV))→CZ xs (x++r)→Az L=true→Az CH=true→Az K=true→Az CO=true→Rd σ (x++r)→Uj ns d c (.rcd cc ff) L CH K CO σ hs xs x t):
  Uj ns d c (.rcd cc ff) L CH K CO σ hs xs (run++(q::m++x)) (run++(t2++t)):=by
 have e1:=NL (ns:=ns) (d:=d+1) (b:=.rcd cc ff) (K:=K) (CO:=CO) hc hf hL hCH hrun hq h
 refine AA T fun hs2 T=>AA T fun L' T=>AA T fun CH' T=>AA T fun K' T=>AA T fun CO' T=>?_
 have h2:=h.skip.skip
 have hc2:=gs (o':=.list ((xs++Dx run++ys2).map AV)) (T.1.get (gs hc))
 refine LQ (ih hc2 ((hf.app (Dw run)).app l2) T.2.1 T.2.2.1 T.2.2.2.1 T.2.2.2.2.1 h2) fun ys h3 l' hy hn hc3 k3 e3=>?_
 have T6:=T.2.2.2.2.2
 rw[←B9] at T6
 rw[←B9,←B9] at e3
 refine⟨Dx run++(ys2++ys),h3,l',by rw[DZ,DZ,Mi,f2,hy],?_,by rw[←AB,←AB];exact hc3,((CY.setc hs).trans T.1.keep).trans ((CY.setc hs2).trans k3),?_⟩
 ·rw[AF,AF,AF,AF]
  exact DD (Dw run) (DD l2 hn)
 ·rw[AF,AF,←BP]
  rw[←Lp] at e3 ⊢
  exact .next Ks (e1.app T6) e3
theorem XZ {x t r:List Nat}(hr:E8 x t r):∀{σ:Sc} {hs:List O} {L CH K CO:V} {xs:List (List Nat)},hs[c]? =some (.list (xs.map AV))→CZ xs (x++r)→Az L=true→Az CH=true→Az K=true→Az CO=true→Rd σ (x++r)→Uj ns d c (.rcd cc ff) L CH K CO σ hs xs x t:=by
 induction hr with
 |@stop run x u hrun hx h39 h92=>
  intro σ hs L CH K CO xs hc hf hL hCH hK hCO h
  have e1:=NL (ns:=ns) (d:=d+1) (b:=.rcd cc ff) (K:=K) (CO:=CO) hc hf hL hCH hrun hx h
  refine⟨Dx run,hs.set c (.list ((xs++Dx run).map AV)),Cd (c+1) (.rcd cc ff) (.int (run.length:Int)) (Ai x) K CO,Mi run,Dw run,gs hc,CY.setc _,.ret Ks ?_⟩
  rw[←Lp]
  exact e1.app (Qu h39 h92)
 |@apos run x t r hrun hr ih=>
  intro σ hs L CH K CO xs hc hf hL hCH hK hCO h
  rw[AB] at hf h
  refine AA (Gd (x:=x) hr.rest) fun y e=>AA e fun u e=>?_
  have T:=Mc (ns:=ns) (d:=d) (b:=.rcd cc ff) (L:=.int (run.length:Int)) (σ:=AL run.length σ) (r:=u) (gs (o':=.list ((xs++Dx run).map AV)) hc) (hf.app (Dw run)).ok rfl hK hCO (h.skip.as (congrArg (39::·) e))
  exact Ku (m:=[]) (t2:=[39]) hc hf hL hCH hrun (by decide) h T rfl (Ak 1) ih
 |@esc run x t r e v hrun he hr ih=>
  intro σ hs L CH K CO xs hc hf hL hCH hK hCO h
  rw[AB] at hf h
  refine AA (Gd (x:=x) hr.rest) fun y e'=>AA e' fun u e'=>?_
  have T:=Ni (ns:=ns) (d:=d) (b:=.rcd cc ff) (L:=.int (run.length:Int)) (σ:=AL run.length σ) (r:=u) he (gs (o':=.list ((xs++Dx run).map AV)) hc) (hf.app (Dw run)).ok rfl hK hCO (h.skip.as (congrArg (fun z=>92::e::z) e'))
  exact Ku (m:=[e]) (t2:=[v]) hc hf hL hCH hrun (by decide) h T rfl (Nat.le_succ 1) ih
 |@code run hx x t r e n v hrun he hn hh hv hv2 hr ih=>
  intro σ hs L CH K CO xs hc hf hL hCH hK hCO h
  have ea:(run++92::e::(hx++x))++r=run++(92::e::hx++(x++r)):=by rw[AB,B0,B0,AB];rfl
  have hf:=hf.as ea
  have h:=h.as ea
  refine AA (Gd (x:=x) hr.rest) fun y e'=>AA e' fun u e'=>?_
  have T:=Mb (ns:=ns) (d:=d) (b:=.rcd cc ff) (L:=.int (run.length:Int)) (σ:=AL run.length σ) (r:=u) he hn hh hv hv2 (gs (o':=.list ((xs++Dx run).map AV)) hc) (hf.app (Dw run)).ok rfl hK hCO (h.skip.as (congrArg (fun z=>92::e::(hx++z)) e'))
  rw[BY] at T
  exact Ku (m:=e::hx) (t2:=[v]) hc hf hL hCH hrun (by decide) h T rfl (BW 1 _) ih
 |@line run w l y t1 x t r hrun hb hrow hr ih=>
  intro σ hs L CH K CO xs hc hf hL hCH hK hCO h
  have ea:(run++92::(w++(y++x)))++r=run++(92::(w++y)++(x++r)):=by rw[AB,B0,AB,AB,B0,AB]
  have hf:=hf.as ea
  have h:=h.as ea
  refine hb.head fun q w' eb zz zz=>?_
  refine E2 (Ma (ns:=ns) (d:=d) (cc:=cc) (ff:=ff) (L:=.int (run.length:Int)) (σ:=AL run.length σ) (K:=K) (CO:=CO) hb hrow eb (gs (o':=.list ((xs++Dx run).map AV)) hc) ((hf.app (Dw run)).as (by rw[B0,AB];rfl)) rfl hK hCO (h.skip.as (by rw[B0,AB]))) fun ys hy hn T=>?_
  rw[show 1+w.length+y.length=(92::(w++y)).length from by rw[AQ,AF,BP,BY]] at T
  have e2:run++92::(w++(y++x))=run++(92::(w++y)++x):=by rw[B0,AB]
  rw[e2]
  exact Ku (m:=w++y) (t2:=t1) hc hf hL hCH hrun (by decide) h T hy (AM hn (by rw[AQ,AF];exact Cw (BW ..))) ih
theorem HZ {σ:Sc}{hs:List O}{x t r:List Nat}(hr:E8 x t r)(h:Rd σ (x++r)):
  ∃ys hs',ys.flatten=t∧ys.length≤x.length∧Um hs hs' ys∧AN (S ns) (d+5) 35 [.obj 0,.bool true,.rcd cc ff] [] (scO σ::hs) (.obj (hs.length+1)) (scO (AL x.length σ)::hs'):=by
 have hl:=h.len
 refine LQ (XZ (ns:=ns) (d:=d) (c:=hs.length) (hs:=hs++[.list []]) (cc:=cc) (ff:=ff) (xs:=[]) hr (L:=.undef) (CH:=.undef) (K:=.undef) (CO:=.undef) ga (by unfold CZ;rw[BR,CS];exact hl) rfl rfl rfl rfl h) fun ys h' l' hf hle b k e=>?_
 refine⟨ys,h',hf,hle,⟨b,k.ext⟩,?_⟩
 exact AN.by [.a 1,.w (Fl.ret (V.obj (A9 hs+1))) (St.mk l' (scO (AL (A9 x) σ)::h'))] (an e trivial) (by kernel_rfl)
end
theorem I6:∀ys:List (List Nat),DB (A8 "") (ys.map fun y=>(⟨y.toArray⟩:Str))=⟨ys.flatten.toArray⟩
 |[]=>rfl
 |[y]=>by simp[DB]
 |y::z::ys=>by
  have ih:=I6 (z::ys)
  rw[An,An] at *
  rw[DB,ih]
  ·rw[FA]
   show((y.toArray++(A8 "").cps)++((z::ys).flatten).toArray).toList=_
   have h0:(A8 "").cps= #[]:=rfl
   rw[h0]
   simp
  ·simp
theorem KP {ys:List (List Nat)}:Lu (ys.map AV)=some (ys.map fun y=>(⟨y.toArray⟩:Str)):=by
 induction ys with
 |nil=>rfl
 |cons y ys ih=>
  rw[An]
  show(Lu (ys.map AV)).map _=_
  rw[ih]
  rfl
theorem MF {ys:List (List Nat)}(h:ys.flatten.length≤lim):BF (((ys.map fun y=>(⟨y.toArray⟩:Str)).map fun x=>x.cps.size).sum+(A8 "").cps.size * (ys.map fun y=>(⟨y.toArray⟩:Str)).length)=true:=by
 have h0:(A8 "").cps.size=0:=rfl
 refine At ?_
 rw[h0,Nat.zero_mul,EF,DN]
 rw[List.length_flatten] at h
 exact h
inductive Tl:List Nat→List Nat→List Nat→Prop
 |quote {r:List Nat}:Tl [] [] (34::r)
 |blank {ws x1 t1 x2 t2 r u:List Nat} {c:Nat}:ws≠[]→Cf ws→x1++(x2++r)=c::u→c∉[32,9]→c≠0→c∉BRK→E8 x1 t1 (x2++r)→Tl x2 t2 r→Tl (ws++(x1++x2)) (ws++(t1++t2)) r
 |fold {ws w l y t0 x1 t1 x2 t2 r:List Nat}:Cf ws→DQ w l (y++(x1++(x2++r)))→F4 y t0 (x1++(x2++r))→E8 x1 t1 (x2++r)→Tl x2 t2 r→Tl ((ws++(w++y))++(x1++x2)) (FD l t0++(t1++t2)) r
noncomputable abbrev Jy (c:Nat)(ff:List (Str×V)):List (Str×V):=[("self",.obj 0),("style",.str (A8 "\"")),("double",.bool true),("chunks",.obj c),("start_mark",.rcd 0 ff),("quote",Ai 34),("end_mark",.undef),("ScalarToken",.cls 6)]
noncomputable def aV:Expr:=wT (Bv (C9 34) 6)
noncomputable def aa:List Stmt:=wB (Bv (C9 34) 6)
noncomputable def Uk (ns:List Int)(d c:Nat)(ff:List (Str×V))(σ:Sc)(hs:List O)(xs:List (List Nat))(x t:List Nat):Prop:=
 ∃ys hs',ys.flatten=t∧ys.length≤x.length∧hs'[c]? =some (.list ((xs++ys).map AV))∧CY c hs hs'∧BC (S ns) (d+6) aV aa ⟨Jy (c+1) ff,scO σ::hs⟩ .next ⟨Jy (c+1) ff,scO (AL x.length σ)::hs'⟩
theorem NJ {c:Nat}(h:c≠34):decide ((⟨#[c]⟩:Str)=⟨#[34]⟩)=false:=decide_eq_false fun e=>h (by rw[FA] at e;exact(Bj e).1)
section
variable {ns:List Int}{c d:Nat}{ff:List (Str×V)}{hs:List O}
theorem Nq {σ:Sc}{xs:List (List Nat)}{x0 t0 x1 t1 x2 t2 r u:List Nat}{q:Nat}(hc:hs[c]? =some (.list (xs.map AV)))(hf:CZ xs (x0++(x1++(x2++r))))(h:Rd σ (x0++(x1++(x2++r))))(e0:x0++(x1++(x2++r))=q::u)(hq:q≠34)
  (sp:MW ns (d+4) 36 [.obj 0,.bool true,.rcd 0 ff] σ hs x0 t0)(hn:E8 x1 t1 (x2++r))
  (ih:∀{σ:Sc} {hs:List O} {xs:List (List Nat)},hs[c]? =some (.list (xs.map AV))→CZ xs (x2++r)→Rd σ (x2++r)→Uk ns d c ff σ hs xs x2 t2):Uk ns d c ff σ hs xs (x0++(x1++x2)) (t0++(t1++t2)):=by
 have h':=h.as e0
 have q1:=NJ hq
 refine FF (sp) fun ys0 hs1 hy0 hn0 zz cm0 e1=>?_
 have hc1:=cm0.ext.get hc
 have g0:=cm0.lst
 have s0:=hf.ext hn0
 have n0:hs.length≠c:=fun e=>absurd (AI.mp hc).1 (by rw[e];exact CD _)
 have hf1:=hf.app hn0
 have h1:=h.skip
 refine HD (HZ (ns:=ns) (d:=d) (hs:=hs1.set c (.list (xs.map AV++ys0.map AV))) (cc:=0) (ff:=ff) hn h1) fun ys1 hs2 hy1 hn1 cm1 e2=>?_
 rw[←B9] at e2
 have hc2:=cm1.ext.get (gs hc1)
 rw[←Aa] at hc2
 have g1:=cm1.lst
 have s1:=hf1.ext hn1
 have n1:(hs1.set c (.list (xs.map AV++ys0.map AV))).length≠c:=fun e=>absurd (AI.mp hc1).1 (by rw[D0] at e;rw[e];exact CD _)
 rw[Aa] at hc2 s1
 have h2:=h1.skip
 rw[←B9] at h2
 refine FF (ih (hs:=hs2.set c (.list ((xs.map AV++ys0.map AV)++ys1.map AV))) (xs:=xs++ys0++ys1) (by rw[Aa,Aa];exact gs hc2) (hf1.app hn1) h2) fun ys2 hs3 hy2 hn2 hc3 k3 e3=>?_
 rw[←B9,BP] at e3
 refine⟨ys0++(ys1++ys2),hs3,by rw[DZ,DZ,hy0,hy1,hy2],?_,by rw[←AB,←AB];exact hc3,(cm0.ext.keep.trans ((CY.setc hs1).trans (cm1.ext.keep.trans (CY.setc hs2)))).trans k3,?_⟩
 ·rw[AF,AF,AF,AF]
  exact DD hn0 (DD hn1 hn2)
 ·rw[AF,AF]
  refine BC.go (s1:=St.mk [(A8 "self",V.obj 0),(A8 "style",V.str (A8 "\"")),(A8 "double",V.bool true),(A8 "chunks",V.obj (c+1)),(A8 "start_mark",V.rcd 0 ff),(A8 "quote",V.str (Str.mk #[34])),(A8 "end_mark",V.undef),(A8 "ScalarToken",V.cls 6)] (scO (AL (A9 x0+A9 x1) σ)::Bb hs2 c (O.list (AC AV xs++AC AV ys0++AC AV ys1)))) [.c (Ai q) (scO σ::hs),.t,.v .ob (O.list (AC AV xs)),.c (V.obj (A9 hs+1)) (scO (AL (A9 x0) σ)::hs1),.v .ob (O.list (AC AV xs)),.t,.v .ob (O.list (AC AV ys0)),.t,.v .ob (O.list (AC AV xs++AC AV ys0)),.c (V.obj (A9 (Bb hs1 c (O.list (AC AV xs++AC AV ys0)))+1)) (scO (AL (A9 x0+A9 x1) σ)::hs2),.v .ob (O.list (AC AV xs++AC AV ys0)),.t,.v .ob (O.list (AC AV ys1)),.t] ?_ (an (Bi (ns:=ns) (σ:=σ) (d:=d+4) (hs:=hs) (r:=u) (c:=q) (h:=h')) (an (congrArg not q1) (an hc (an e1 (an hc1 (an (PL (a:=A9 hs) (b:=c) (h:=n0)) (an g0 (an s0 (an (gs (o':=O.list (AC AV xs++AC AV ys0)) hc1) (an e2 (an hc2 (an (PL (a:=A9 (Bb hs1 c (O.list (AC AV xs++AC AV ys0)))) (b:=c) (h:=n1)) (an g1 (an s1 trivial)))))))))))))) (by kernel_rfl)
  exact e3
theorem Xa {x t r:List Nat}(hr:Tl x t r):∀{σ:Sc} {hs:List O} {xs:List (List Nat)},hs[c]? =some (.list (xs.map AV))→CZ xs (x++r)→Rd σ (x++r)→Uk ns d c ff σ hs xs x t:=by
 induction hr with
 |@quote r=>
  intro σ hs xs hc hf h
  have h:Rd σ (34::r):=h
  refine⟨[],hs,rfl,Ak _,by rw[AK];exact hc,CY.refl _ _,?_⟩
  rw[show AL (A9 (α:=Nat) []) σ=σ from rfl]
  exact BC.by [.c (Ai 34) (scO σ::hs),.a 1] (an (Bi (ns:=ns) (σ:=σ) (d:=d+4) (hs:=hs) (r:=r) (c:=34) (h:=h)) trivial) (by kernel_rfl)
 |@blank ws x1 t1 x2 t2 r u q hws0 hws e0 hx hx0 hxb hn ht ih=>
  intro σ hs xs hc hf h
  rw[AB,AB] at hf h
  have sp:=M3 (ns:=ns) (d:=d+1) (hs:=hs) (a:=.bool true) (b:=.rcd 0 ff) (r:=u) hws hx hx0 hxb hws0 (h.as (by rw[e0]))
  rcases ws with _|⟨w,ws⟩
  ·exact(hws0 rfl).elim
  ·exact Nq hc hf h (u:=ws++(x1++(x2++r))) rfl (fun e=>absurd (e▸hws w (.head _)) (by decide)) sp hn ih
 |@fold ws w l y t0 x1 t1 x2 t2 r hws hb hrow hn ht ih=>
  intro σ hs xs hc hf h
  rw[AB (ws++(w++y)),AB x1] at hf h
  have sp:=M2 (ns:=ns) (d:=d) (hs:=hs) (cc:=0) (ff:=ff) hws hb hrow (h.as (by rw[AB,AB]))
  refine hb.head fun q w' eb hq zz=>?_
  subst eb
  rcases ws with _|⟨z,ws⟩
  ·exact Nq hc hf h (u:=w'++y++(x1++(x2++r))) rfl (fun e=>absurd (e▸hq) (by decide)) sp hn ih
  ·exact Nq hc hf h (u:=(ws++(q::w'++y))++(x1++(x2++r))) rfl (fun e=>absurd (e▸hws z (.head _)) (by decide)) sp hn ih
end
theorem FZ {a b c d:List Nat}(h:a.length≤c.length)(h':b.length≤d.length):(a++b).length≤(c++d).length:=by
 rw[AF,AF];exact DD h h'
theorem No (a b:List Nat):b.length≤(a++b).length:=by rw[AF];exact BW ..
theorem F4.len {x t r:List Nat}(h:F4 x t r):t.length≤x.length:=by
 induction h with
 |stop=>exact BX _
 |more _ hb _ _ ih=>exact AM (FZ hb.len.1 ih) (No _ _)
theorem SG (l t:List Nat):(FD l t).length≤l.length+t.length:=by
 unfold FD
 split
 ·rename_i h
  subst h
  split
  ·exact BM 1 _
  ·exact BW ..
 ·rw[AF];exact Ak _
theorem E8.len {x t r:List Nat}(h:E8 x t r):t.length≤x.length:=by
 induction h with
 |stop=>exact Ak _
 |apos _ _ ih=>exact FZ (Ak _) (F5 ih)
 |esc _ _ _ ih=>exact FZ (Ak _) (Cw (F5 ih))
 |code _ _ _ _ _ _ _ ih=>exact FZ (Ak _) (Cw (F5 (AM ih (No _ _))))
 |line _ hb hr _ ih=>exact FZ (Ak _) (Cw (AM (FZ hr.len ih) (No _ _)))
theorem Tl.len {x t r:List Nat}(h:Tl x t r):t.length≤x.length:=by
 induction h with
 |quote=>exact Ak _
 |blank _ _ _ _ _ _ hn _ ih=>exact FZ (Ak _) (FZ hn.len ih)
 |fold _ hb hr hn _ ih=>exact FZ (AM (SG _ _) (by rw[AF,AF];exact AM (DD hb.len.1 hr.len) (BW ..))) (FZ hn.len ih)
theorem PK (h:List O)(a b:O):decide (((h++[a])++[b]).length+1≠h.length+1)=true:=decide_eq_true (by rw[AF,AF];exact CT (Nat.succ_lt_succ (Nat.lt_add_of_pos_right (k:=2) (by decide))))
section
variable {ns:List Int}{d:Nat}{hs:List O}
theorem WC {σ:Sc}{x1 t1 x2 t2 r:List Nat}(hn:E8 x1 t1 (x2++34::r))(ht:Tl x2 t2 (34::r))(hr:∃a u,r=a::u)(h:Rd σ (34::(x1++(x2++34::r)))):
  ∃hs',B5 hs hs'∧AN (S ns) (d+6) 34 [.obj 0,.str "\""] [] (scO σ::hs) (Jm ⟨(t1++t2).toArray⟩ (mk σ) (mk (AL (1+x1.length+x2.length+1) σ)) (A8 "\"")) (scO (AL (1+x1.length+x2.length+1) σ)::hs'):=by
 refine AA hr fun a hr=>AA hr fun u hr=>?_
 subst hr
 refine AA (Gd (x:=x1) (Gd (x:=x2) ⟨34,a::u,rfl⟩)) fun y e=>AA e fun w e=>?_
 have h0:Rd σ (34::y::w):=h.as (congrArg (34::·) e)
 have ef:=EW (ns:=ns) (d:=d+3) (hs:=(hs++[.list []])++[.dead]) h0
 have h1:=h.next
 refine HD (HZ (ns:=ns) (d:=d) (hs:=(hs++[.list []])++[.dead]) (cc:=0) (ff:=Bt σ) hn h1) fun ys1 hs1 hy1 hn1 cm1 e1=>?_
 have hl1:=h1.len
 have hf0:CZ [] (x1++(x2++34::a::u)):=by unfold CZ;rw[BR,CS];exact hl1
 have s1:=hf0.ext hn1
 have hf1:=hf0.app hn1
 rw[←B9] at e1
 have h2:=h1.skip
 rw[←B9] at h2
 have g1:=cm1.lst
 have hcl:((hs++[O.list []])++[O.dead])[hs.length]? =some (.list []):=by rw[AB];exact ga
 have hc1:hs1[hs.length]? =some (.list []):=cm1.ext.get hcl
 refine FF (Xa (ns:=ns) (d:=d) (c:=hs.length) (ff:=Bt σ) ht (hs:=hs1.set hs.length (.list (ys1.map AV))) (gs hc1) hf1 h2) fun ys2 hs2 hy2 hn2 hc2 k2 e2=>?_
 rw[←B9] at e2
 have h3:=h2.skip
 rw[←B9] at h3
 have ef2:=EW (ns:=ns) (d:=d+3) (hs:=hs2) h3
 rw[←B9] at ef2
 have hj:(ys1++ys2).flatten.length≤lim:=by
  rw[DZ,hy1,hy2]
  exact AM (FZ hn.len (AM ht.len (by rw[AF (as:=x2)];exact BM ..))) hl1
 have jo:=MF hj
 have jt:=KP (ys:=ys1++ys2)
 have x1k:CY hs.length (hs++[.list []]) ((hs++[.list []])++[.dead]):=(B5.app (hs++[.list []]) (o:=.dead)).keep
 refine⟨hs2++[.dead]++[.dead],?_,?_⟩
 ·exact((((x1k.trans cm1.ext.keep).trans (CY.setc hs1)).trans k2).ext.trans (B5.app _)).trans (B5.app _)
 ·rw[←hy1,←hy2,←DZ,←I6,←EO (hs2++[O.dead]) (O.inst 6 [("value",.str (DB (A8 "") ((ys1++ys2).map fun y=>(⟨y.toArray⟩:Str)))),("plain",.bool false),("start_mark",mk σ),("end_mark",mk (AL (1+x1.length+x2.length+1) σ)),("style",.str "\"")])]
  exact AN.by [.a 3,.c (mk σ) (scO σ::(hs++[O.list []]++[O.dead])),.a 1,.c (Ai 34) (scO σ::(hs++[O.list []]++[O.dead])),.a 1,.c (V.none) (scO (AL 1 σ)::(hs++[O.list []]++[O.dead])),.v .ob (O.list []),.c (V.obj (A9 (hs++[O.list []]++[O.dead])+1)) (scO (AL (1+A9 x1) σ)::hs1),.v .ob (O.list []),.t,.v .ob (O.list (AC AV ys1)),.t,.w (Fl.next) (St.mk (Jy (A9 hs+1) (Bt σ)) (scO (AL (1+A9 x1+A9 x2) σ)::hs2)),.c (V.none) (scO (AL (1+A9 x1+A9 x2+1) σ)::hs2),.c (mk (AL (1+A9 x1+A9 x2+1) σ)) (scO (AL (1+A9 x1+A9 x2+1) σ)::(hs2++[O.dead])),.a 1,.v .ob (O.list (AC AV (ys1++ys2))),.v .strs (AC (fun y=>Str.mk (AE y)) (ys1++ys2)),.t,.c (V.none) (scO (AL (1+A9 x1+A9 x2+1) σ)::(hs2++[O.dead]++[O.inst 6 [(A8 "value",V.str (DB (A8 "") (AC (fun y=>Str.mk (AE y)) (ys1++ys2)))),(A8 "plain",V.bool false),(A8 "start_mark",V.rcd 0 (Bt σ)),(A8 "end_mark",V.rcd 0 (Bt (AL (1+A9 x1+A9 x2+1) σ))),(A8 "style",V.str (A8 "\""))]])),.v .ob (O.inst 6 [(A8 "value",V.str (DB (A8 "") (AC (fun y=>Str.mk (AE y)) (ys1++ys2)))),(A8 "plain",V.bool false),(A8 "start_mark",V.rcd 0 (Bt σ)),(A8 "end_mark",V.rcd 0 (Bt (AL (1+A9 x1+A9 x2+1) σ))),(A8 "style",V.str (A8 "\""))])] (an (ED (ns:=ns) (σ:=σ) (d:=d+3) (hs:=hs++[O.list []])) (an (Bi (ns:=ns) (σ:=σ) (d:=d+4) (hs:=hs++[O.list []]++[O.dead]) (r:=x1++(x2++34::a::u)) (c:=34) (h:=h)) (an ef (an hcl (an e1 (an hc1 (an (PK (h:=hs) (a:=O.list []) (b:=O.dead)) (an g1 (an s1 (an e2 (an ef2 (an (ED (ns:=ns) (σ:=AL (1+A9 x1+A9 x2+1) σ) (d:=d+3) (hs:=hs2)) (an (gl (r:=[O.dead]) hc2) (an jt (an jo (an (Xm (ns:=ns) (d:=d+4) (l:=hs2++[O.dead]) (a0:=scO (AL (1+A9 x1+A9 x2+1) σ)) (v:=DB (A8 "") (AC (fun y=>Str.mk (AE y)) (ys1++ys2))) (y:=A8 "\"") (c1:=0) (c2:=0) (f1:=Bt σ) (f2:=Bt (AL (1+A9 x1+A9 x2+1) σ))) (an (ga (l:=hs2++[O.dead]) (o:=O.inst 6 [(A8 "value",V.str (DB (A8 "") (AC (fun y=>Str.mk (AE y)) (ys1++ys2)))),(A8 "plain",V.bool false),(A8 "start_mark",V.rcd 0 (Bt σ)),(A8 "end_mark",V.rcd 0 (Bt (AL (1+A9 x1+A9 x2+1) σ))),(A8 "style",V.str (A8 "\""))]) (r:=[])) trivial))))))))))))))))) (by kernel_rfl)
end
noncomputable abbrev Cq (ct cm p pm:V):List (Str×V):=[("context",ct),("context_mark",cm),("problem",p),("problem_mark",pm),("note",.none)]
noncomputable def Hg (v cm pm:V):Prop:=∃ct p,v= .rcd 9 (Cq ct cm p pm)
section
variable {ns:List Int}{σ:Sc}{d:Nat}{hs l:List O}{a0:O}{r:List Nat}{cc:Nat}{ff:List (Str×V)}{a:V}
theorem AN.inx {S:BD}{d f:Nat}{vs:List V}{h:List O}{f1:Str×V}{fs:List (Str×V)}(x:AN S d f vs [] h .none (a0::IQ 9 l.length ((l++[O.exc 9]).set l.length (.inst 9 [f1])) [f1] fs)):AN S d f vs [] h .none (a0::(l++[.inst 9 (f1::fs)])):=by
 rw[EO,JE] at x;exact x
theorem OI {c p:Str}{c1 c2:Nat}{f1 f2:List (Str×V)}:AN (S ns) (d+1) 1 [.obj (l.length+1),.str c,.rcd c1 f1,.str p,.rcd c2 f2] [] (a0::(l++[O.exc 9])) .none (a0::(l++[.inst 9 (Cq (.str c) (.rcd c1 f1) (.str p) (.rcd c2 f2))])):=by
 refine .inx ?_
 exact AN.by [.v .ob (O.exc 9),.v .ob (O.inst 9 [(A8 "context",V.str c)]),.v .ob (O.inst 9 [(A8 "context",V.str c),(A8 "context_mark",V.rcd c1 f1)]),.v .ob (O.inst 9 [(A8 "context",V.str c),(A8 "context_mark",V.rcd c1 f1),(A8 "problem",V.str p)]),.v .ob (O.inst 9 [(A8 "context",V.str c),(A8 "context_mark",V.rcd c1 f1),(A8 "problem",V.str p),(A8 "problem_mark",V.rcd c2 f2)])] (an (ga (l:=l) (o:=O.exc 9) (r:=[])) (an (gs (o':=O.inst 9 [(A8 "context",V.str c)]) (ga (l:=l) (o:=O.exc 9) (r:=[]))) (an (gs (o':=O.inst 9 [(A8 "context",V.str c),(A8 "context_mark",V.rcd c1 f1)]) (gs (o':=O.inst 9 [(A8 "context",V.str c)]) (ga (l:=l) (o:=O.exc 9) (r:=[])))) (an (gs (o':=O.inst 9 [(A8 "context",V.str c),(A8 "context_mark",V.rcd c1 f1),(A8 "problem",V.str p)]) (gs (o':=O.inst 9 [(A8 "context",V.str c),(A8 "context_mark",V.rcd c1 f1)]) (gs (o':=O.inst 9 [(A8 "context",V.str c)]) (ga (l:=l) (o:=O.exc 9) (r:=[]))))) (an (gs (o':=O.inst 9 [(A8 "context",V.str c),(A8 "context_mark",V.rcd c1 f1),(A8 "problem",V.str p),(A8 "problem_mark",V.rcd c2 f2)]) (gs (o':=O.inst 9 [(A8 "context",V.str c),(A8 "context_mark",V.rcd c1 f1),(A8 "problem",V.str p)]) (gs (o':=O.inst 9 [(A8 "context",V.str c),(A8 "context_mark",V.rcd c1 f1)]) (gs (o':=O.inst 9 [(A8 "context",V.str c)]) (ga (l:=l) (o:=O.exc 9) (r:=[])))))) trivial))))) (by kernel_rfl)
theorem Rx {c:Str}{c1 c2:Nat}{f1 f2:List (Str×V)}:AN (S ns) (d+1) 1 [.obj (l.length+1),.str c,.rcd c1 f1,.txt,.rcd c2 f2] [] (a0::(l++[O.exc 9])) .none (a0::(l++[.inst 9 (Cq (.str c) (.rcd c1 f1) .txt (.rcd c2 f2))])):=by
 refine .inx ?_
 exact AN.by [.v .ob (O.exc 9),.v .ob (O.inst 9 [(A8 "context",V.str c)]),.v .ob (O.inst 9 [(A8 "context",V.str c),(A8 "context_mark",V.rcd c1 f1)]),.v .ob (O.inst 9 [(A8 "context",V.str c),(A8 "context_mark",V.rcd c1 f1),(A8 "problem",V.txt)]),.v .ob (O.inst 9 [(A8 "context",V.str c),(A8 "context_mark",V.rcd c1 f1),(A8 "problem",V.txt),(A8 "problem_mark",V.rcd c2 f2)])] (an (ga (l:=l) (o:=O.exc 9) (r:=[])) (an (gs (o':=O.inst 9 [(A8 "context",V.str c)]) (ga (l:=l) (o:=O.exc 9) (r:=[]))) (an (gs (o':=O.inst 9 [(A8 "context",V.str c),(A8 "context_mark",V.rcd c1 f1)]) (gs (o':=O.inst 9 [(A8 "context",V.str c)]) (ga (l:=l) (o:=O.exc 9) (r:=[])))) (an (gs (o':=O.inst 9 [(A8 "context",V.str c),(A8 "context_mark",V.rcd c1 f1),(A8 "problem",V.txt)]) (gs (o':=O.inst 9 [(A8 "context",V.str c),(A8 "context_mark",V.rcd c1 f1)]) (gs (o':=O.inst 9 [(A8 "context",V.str c)]) (ga (l:=l) (o:=O.exc 9) (r:=[]))))) (an (gs (o':=O.inst 9 [(A8 "context",V.str c),(A8 "context_mark",V.rcd c1 f1),(A8 "problem",V.txt),(A8 "problem_mark",V.rcd c2 f2)]) (gs (o':=O.inst 9 [(A8 "context",V.str c),(A8 "context_mark",V.rcd c1 f1),(A8 "problem",V.txt)]) (gs (o':=O.inst 9 [(A8 "context",V.str c),(A8 "context_mark",V.rcd c1 f1)]) (gs (o':=O.inst 9 [(A8 "context",V.str c)]) (ga (l:=l) (o:=O.exc 9) (r:=[])))))) trivial))))) (by kernel_rfl)
noncomputable abbrev exH (hs:List O)(F:List (Str×V)):List O:=((hs++[O.dead])++[O.inst 9 F]).set (hs++[O.dead]).length .dead
noncomputable abbrev Jf:V:=.str "while scanning a quoted scalar"
noncomputable abbrev Lk:V:=.str "found unexpected document separator"
inductive HS:List Nat→List Nat→Prop
 |here {r:List Nat}:Vi r→HS [] r
 |more {ws b l x r:List Nat}:Cf ws→DQ b l (x++r)→Es (ws++(b++(x++r)))→HS x r→HS (ws++(b++x)) r
theorem HS.rest {x r:List Nat}(h:HS x r):∃c u,r=c::u:=by
 induction h with
 |here hd=>rcases hd with _|_<;>exact⟨_,_,rfl⟩
 |more _ _ _ _ ih=>exact ih
theorem bO {c:Nat}{x:List Nat}(hr:HS x r):∀{σ:Sc} {hs:List O} {v:V} {xs:List (List Nat)},Rd σ (x++r)→hs[c]? =some (.list (xs.map AV))→CZ xs (x++r)→Az v=true→
  ∃s',Dd (S ns) (d+5) aU aZ ⟨EQ (c+1) a (.rcd cc ff) v,scO σ::hs⟩ (.rcd 9 (Cq Jf (.rcd cc ff) Lk (mk (AL x.length σ)))) s':=by
 induction hr with
 |@here r hd=>
  intro σ hs v xs h hc _ hv
  have h:Rd σ r:=h
  have e1:AN (S ns) (d+4) 5 [.obj 0,.int 3] [] (scO σ::hs) (.str ⟨(r.take 3).toArray⟩) (scO σ::hs):=Ii h (n:=3)
  rw[show AL (A9 (α:=Nat) []) σ=σ from rfl]
  cases hd with
  |@dash y z hy=>
   have q1:Ab 3 ([45,45,45]++y::z)=[45,45,45]:=rfl
   have e6:AN (S ns) (d+4) 4 [.obj 0,.int 3] [] (scO σ::hs) (Ai y) (scO σ::hs):=Ec h
   refine⟨⟨EQ (c+1) a (.rcd cc ff) (AV [45,45,45]),scO σ::exH hs (Cq Jf (.rcd cc ff) Lk (mk σ))⟩,?_⟩
   unfold mk Bt
   exact Dd.by [.a 1,.c (V.str (Str.mk (AE (Ab 3 ([45,45,45]++y::z))))) (scO σ::hs),.t,.t,.a 1,.c (Ai y) (scO σ::hs),.t,.a 1,.c (mk σ) (scO σ::(hs++[O.dead])),.c (V.none) (scO σ::(hs++[O.dead]++[O.inst 9 (Cq (V.str (A8 "while scanning a quoted scalar")) (V.rcd cc ff) (V.str (A8 "found unexpected document separator")) (V.rcd 0 (Bt σ)))])),.v .ob (O.inst 9 [(A8 "context",V.str (A8 "while scanning a quoted scalar")),(A8 "context_mark",V.rcd cc ff),(A8 "problem",V.str (A8 "found unexpected document separator")),(A8 "problem_mark",V.rcd 0 (Bt σ)),(A8 "note",V.none)])] (an e1 (an (B8 (u:=v) (v:=V.str (Str.mk (AE (Ab 3 ([45,45,45]++y::z))))) (h:=hv) (h2:=(by rfl))) (an (K6 (l:=Ab 3 ([45,45,45]++y::z)) (n:=q1)) (an e6 (an (Qo (c:=y) (h:=hy)) (an (ED (ns:=ns) (σ:=σ) (d:=d+2) (hs:=hs)) (an (OI (ns:=ns) (d:=d+3) (l:=hs++[O.dead]) (a0:=scO σ) (c:=A8 "while scanning a quoted scalar") (p:=A8 "found unexpected document separator") (c1:=cc) (c2:=0) (f1:=ff) (f2:=Bt σ)) (an (ga (l:=hs++[O.dead]) (o:=O.inst 9 [(A8 "context",V.str (A8 "while scanning a quoted scalar")),(A8 "context_mark",V.rcd cc ff),(A8 "problem",V.str (A8 "found unexpected document separator")),(A8 "problem_mark",V.rcd 0 (Bt σ)),(A8 "note",V.none)]) (r:=[])) trivial)))))))) (by kernel_rfl)
  |@dots y z hy=>
   have q1:Ab 3 ([46,46,46]++y::z)≠[45,45,45]:=by simp
   have q2:Ab 3 ([46,46,46]++y::z)=[46,46,46]:=rfl
   have e6:AN (S ns) (d+4) 4 [.obj 0,.int 3] [] (scO σ::hs) (Ai y) (scO σ::hs):=Ec h
   refine⟨⟨EQ (c+1) a (.rcd cc ff) (AV [46,46,46]),scO σ::exH hs (Cq Jf (.rcd cc ff) Lk (mk σ))⟩,?_⟩
   unfold mk Bt
   exact Dd.by [.a 1,.c (V.str (Str.mk (AE (Ab 3 ([46,46,46]++y::z))))) (scO σ::hs),.t,.f,.t,.a 1,.c (Ai y) (scO σ::hs),.t,.a 1,.c (mk σ) (scO σ::(hs++[O.dead])),.c (V.none) (scO σ::(hs++[O.dead]++[O.inst 9 (Cq (V.str (A8 "while scanning a quoted scalar")) (V.rcd cc ff) (V.str (A8 "found unexpected document separator")) (V.rcd 0 (Bt σ)))])),.v .ob (O.inst 9 [(A8 "context",V.str (A8 "while scanning a quoted scalar")),(A8 "context_mark",V.rcd cc ff),(A8 "problem",V.str (A8 "found unexpected document separator")),(A8 "problem_mark",V.rcd 0 (Bt σ)),(A8 "note",V.none)])] (an e1 (an (B8 (u:=v) (v:=V.str (Str.mk (AE (Ab 3 ([46,46,46]++y::z))))) (h:=hv) (h2:=(by rfl))) (an (Gz (l:=Ab 3 ([46,46,46]++y::z)) (n:=q1)) (an (LS (l:=Ab 3 ([46,46,46]++y::z)) (n:=q2)) (an e6 (an (Qo (c:=y) (h:=hy)) (an (ED (ns:=ns) (σ:=σ) (d:=d+2) (hs:=hs)) (an (OI (ns:=ns) (d:=d+3) (l:=hs++[O.dead]) (a0:=scO σ) (c:=A8 "while scanning a quoted scalar") (p:=A8 "found unexpected document separator") (c1:=cc) (c2:=0) (f1:=ff) (f2:=Bt σ)) (an (ga (l:=hs++[O.dead]) (o:=O.inst 9 [(A8 "context",V.str (A8 "while scanning a quoted scalar")),(A8 "context_mark",V.rcd cc ff),(A8 "problem",V.str (A8 "found unexpected document separator")),(A8 "problem_mark",V.rcd 0 (Bt σ)),(A8 "note",V.none)]) (r:=[])) trivial))))))))) (by kernel_rfl)
 |@more ws b l x r hws hb hok hrow ih=>
  intro σ hs v xs h hc hf hv
  rw[AB,AB] at h hf
  refine hb.head fun q b' eb hq hl=>?_
  subst eb
  have hx:q∉[32,9]:=JK hq
  have e1:=Ii (ns:=ns) (d:=d+2) (hs:=hs) h (n:=3)
  have e1:AN (S ns) (d+4) 5 [.obj 0,.int 3] [] (scO σ::hs) (.str ⟨((ws++(q::b'++(x++r))).take 3).toArray⟩) (scO σ::hs):=e1
  have e2:=Nw (ns:=ns) (d:=d+2) (c:=c+1) (hs:=hs) (a:=a) (b:=.rcd cc ff) (v:=AV ((ws++(q::b'++(x++r))).take 3)) hx hws h
  have h2:=h.skip
  have h2':Rd (AL ws.length σ) (q::(b'++(x++r))):=h2
  have e4:AN (S ns) (d+4) 38 [.obj 0] [] (scO (AL ws.length σ)::hs) (.str ⟨l.toArray⟩) (scO (AL (q::b').length (AL ws.length σ))::hs):=by
   refine AA hrow.rest fun z hr=>AA hr fun u e=>?_
   subst e
   rcases x with _|⟨y,x⟩
   ·exact J5 h2 hb
   ·exact J5 h2 hb
  have h3:=h2.skip
  rw[←B9] at h3 e4
  have hl2:=hb.len
  refine AA (ih (v:=AV ((ws++(q::b'++(x++r))).take 3)) (xs:=xs++[l]) h3 (gs hc) ((hf.drop).app (ys:=[l]) (x:=q::b') (BW ..)) rfl) fun s' e5=>?_
  rw[←B9] at e5
  have hxl:=hf.ok
  rw[Aa] at e5
  refine⟨s',?_⟩
  rw[AF,AF,←BP]
  have hx':q∈[13,10,133,8232,8233]:=hq
  generalize hw:ws++(q::b'++(x++r))=w at e1 e2 e5 hok h
  cases hok with
  |no q1 q2=>
   refine Dd.go (s1:=St.mk [(A8 "self",V.obj 0),(A8 "double",a),(A8 "start_mark",V.rcd cc ff),(A8 "chunks",V.obj (c+1)),(A8 "prefix",V.str (Str.mk (AE (Ab 3 w)))),(A8 "ScannerError",V.cls 9)] (scO (AL (A9 ws+(A9 b'+1)) σ)::Bb hs c (O.list (AC AV xs++[V.str (Str.mk (AE l))])))) [.a 1,.c (V.str (Str.mk (AE (Ab 3 w)))) (scO σ::hs),.t,.f,.f,.a 2,.w (Fl.next) (St.mk (EQ (c+1) a (V.rcd cc ff) (AV (Ab 3 w))) (scO (AL (A9 ws) σ)::hs)),.c (Ai q) (scO (AL (A9 ws) σ)::hs),.t,.v .ob (O.list (AC AV xs)),.c (V.str (Str.mk (AE l))) (scO (AL (A9 ws+A9 (q::b')) σ)::hs),.v .ob (O.list (AC AV xs)),.t] ?_ (an e1 (an (B8 (u:=v) (v:=V.str (Str.mk (AE (Ab 3 w)))) (h:=hv) (h2:=(by rfl))) (an (Gz (l:=Ab 3 w) (n:=q1)) (an (OZ (l:=Ab 3 w) (n:=q2)) (an e2 (an (Bi (ns:=ns) (σ:=AL (A9 ws) σ) (d:=d+3) (hs:=hs) (r:=b'++(x++r)) (c:=q) (h:=h2')) (an (GG (c:=q) (h:=hq)) (an hc (an e4 (an hc (an hxl trivial))))))))))) (by kernel_rfl)
   exact e5
  |@dash y z hy=>
   have q1:Ab 3 ([45,45,45]++y::z)=[45,45,45]:=rfl
   have e6:AN (S ns) (d+4) 4 [.obj 0,.int 3] [] (scO σ::hs) (Ai y) (scO σ::hs):=Ec h
   refine Dd.go (s1:=St.mk [(A8 "self",V.obj 0),(A8 "double",a),(A8 "start_mark",V.rcd cc ff),(A8 "chunks",V.obj (c+1)),(A8 "prefix",V.str (Str.mk (AE (Ab 3 ([45,45,45]++y::z))))),(A8 "ScannerError",V.cls 9)] (scO (AL (A9 ws+(A9 b'+1)) σ)::Bb hs c (O.list (AC AV xs++[V.str (Str.mk (AE l))])))) [.a 1,.c (V.str (Str.mk (AE (Ab 3 ([45,45,45]++y::z))))) (scO σ::hs),.t,.t,.a 1,.c (Ai y) (scO σ::hs),.f,.a 1,.w (Fl.next) (St.mk (EQ (c+1) a (V.rcd cc ff) (AV (Ab 3 ([45,45,45]++y::z)))) (scO (AL (A9 ws) σ)::hs)),.c (Ai q) (scO (AL (A9 ws) σ)::hs),.t,.v .ob (O.list (AC AV xs)),.c (V.str (Str.mk (AE l))) (scO (AL (A9 ws+A9 (q::b')) σ)::hs),.v .ob (O.list (AC AV xs)),.t] ?_ (an e1 (an (B8 (u:=v) (v:=V.str (Str.mk (AE (Ab 3 ([45,45,45]++y::z))))) (h:=hv) (h2:=(by rfl))) (an (K6 (l:=Ab 3 ([45,45,45]++y::z)) (n:=q1)) (an e6 (an (IL (c:=y) (h:=hy)) (an e2 (an (Bi (ns:=ns) (σ:=AL (A9 ws) σ) (d:=d+3) (hs:=hs) (r:=b'++(x++r)) (c:=q) (h:=h2')) (an (GG (c:=q) (h:=hq)) (an hc (an e4 (an hc (an hxl trivial)))))))))))) (by kernel_rfl)
   exact e5
  |@dots y z hy=>
   have q1:Ab 3 ([46,46,46]++y::z)≠[45,45,45]:=by simp
   have q2:Ab 3 ([46,46,46]++y::z)=[46,46,46]:=rfl
   have e6:AN (S ns) (d+4) 4 [.obj 0,.int 3] [] (scO σ::hs) (Ai y) (scO σ::hs):=Ec h
   refine Dd.go (s1:=St.mk [(A8 "self",V.obj 0),(A8 "double",a),(A8 "start_mark",V.rcd cc ff),(A8 "chunks",V.obj (c+1)),(A8 "prefix",V.str (Str.mk (AE (Ab 3 ([46,46,46]++y::z))))),(A8 "ScannerError",V.cls 9)] (scO (AL (A9 ws+(A9 b'+1)) σ)::Bb hs c (O.list (AC AV xs++[V.str (Str.mk (AE l))])))) [.a 1,.c (V.str (Str.mk (AE (Ab 3 ([46,46,46]++y::z))))) (scO σ::hs),.t,.f,.t,.a 1,.c (Ai y) (scO σ::hs),.f,.a 1,.w (Fl.next) (St.mk (EQ (c+1) a (V.rcd cc ff) (AV (Ab 3 ([46,46,46]++y::z)))) (scO (AL (A9 ws) σ)::hs)),.c (Ai q) (scO (AL (A9 ws) σ)::hs),.t,.v .ob (O.list (AC AV xs)),.c (V.str (Str.mk (AE l))) (scO (AL (A9 ws+A9 (q::b')) σ)::hs),.v .ob (O.list (AC AV xs)),.t] ?_ (an e1 (an (B8 (u:=v) (v:=V.str (Str.mk (AE (Ab 3 ([46,46,46]++y::z))))) (h:=hv) (h2:=(by rfl))) (an (Gz (l:=Ab 3 ([46,46,46]++y::z)) (n:=q1)) (an (LS (l:=Ab 3 ([46,46,46]++y::z)) (n:=q2)) (an e6 (an (IL (c:=y) (h:=hy)) (an e2 (an (Bi (ns:=ns) (σ:=AL (A9 ws) σ) (d:=d+3) (hs:=hs) (r:=b'++(x++r)) (c:=q) (h:=h2')) (an (GG (c:=q) (h:=hq)) (an hc (an e4 (an hc (an hxl trivial))))))))))))) (by kernel_rfl)
   exact e5
theorem Pi {x:List Nat}(hr:HS x r)(h:Rd σ (x++r)):∃h',D2 (S ns) (d+5) 37 [.obj 0,a,.rcd cc ff] [] (scO σ::hs) (.rcd 9 (Cq Jf (.rcd cc ff) Lk (mk (AL x.length σ)))) h':=by
 have hlen:=h.len
 refine AA (bO (ns:=ns) (d:=d) (c:=hs.length) (hs:=hs++[.list []]) (a:=a) (v:=.undef) (xs:=[]) (cc:=cc) (ff:=ff) hr h ga (by unfold CZ;rw[BR,CS];exact hlen) rfl) fun s' e=>?_
 refine⟨s'.heap,?_⟩
 exact D2.by [.a 1,.y (V.rcd 9 (Cq Jf (V.rcd cc ff) Lk (mk (AL (A9 x) σ)))) (s')] (an e trivial) (by kernel_rfl)
end
noncomputable abbrev aY:V:=.str "found unexpected end of stream"
section
variable {ns:List Int}{σ:Sc}{d:Nat}{hs:List O}{r l ws:List Nat}{cc:Nat}{ff:List (Str×V)}
theorem Vu (hws:Cf ws)(h:Rd σ (ws++0::r)):∃h',D2 (S ns) (d+4) 36 [.obj 0,.bool true,.rcd cc ff] [] (scO σ::hs) (.rcd 9 (Cq Jf (.rcd cc ff) aY (mk (AL ws.length σ)))) h':=by
 have hx:(0:Nat)∉[32,9]:=by decide
 have e1:=NI (ns:=ns) (d:=d+2) (hs:=hs++[.list []]) (c:=hs.length+1) (a:=.bool true) (b:=.rcd cc ff) hx (pre:=[]) hws h
 have e2:=Jo (ns:=ns) (d:=d+1) (hs:=hs++[.list []]) h
 have e3:=Kc (ns:=ns) (d:=d+1) (hs:=hs++[.list []]) h
 have h2:=h.skip
 refine⟨scO (AL ws.length σ)::exH (hs++[.list []]) (Cq Jf (.rcd cc ff) aY (mk (AL ws.length σ))),?_⟩
 unfold mk Bt
 exact D2.by [.a 2,.w (Fl.next) (St.mk (I4 (A9 hs+1) (V.bool true) (V.rcd cc ff) (A9 ws)) (scO σ::(hs++[O.list []]))),.c (V.str (Str.mk (AE ws))) (scO σ::(hs++[O.list []])),.a 1,.c (V.none) (scO (AL (A9 ws) σ)::(hs++[O.list []])),.c (Ai 0) (scO (AL (A9 ws) σ)::(hs++[O.list []])),.a 2,.c (mk (AL (A9 ws) σ)) (scO (AL (A9 ws) σ)::(hs++[O.list []]++[O.dead])),.c (V.none) (scO (AL (A9 ws) σ)::(hs++[O.list []]++[O.dead]++[O.inst 9 (Cq (V.str (A8 "while scanning a quoted scalar")) (V.rcd cc ff) (V.str (A8 "found unexpected end of stream")) (V.rcd 0 (Bt (AL (A9 ws) σ))))])),.v .ob (O.inst 9 [(A8 "context",V.str (A8 "while scanning a quoted scalar")),(A8 "context_mark",V.rcd cc ff),(A8 "problem",V.str (A8 "found unexpected end of stream")),(A8 "problem_mark",V.rcd 0 (Bt (AL (A9 ws) σ))),(A8 "note",V.none)])] (an e1 (an e2 (an e3 (an (Bi (ns:=ns) (σ:=AL (A9 ws) σ) (d:=d+2) (hs:=hs++[O.list []]) (r:=r) (c:=0) (h:=h2)) (an (ED (ns:=ns) (σ:=AL (A9 ws) σ) (d:=d+1) (hs:=hs++[O.list []])) (an (OI (ns:=ns) (d:=d+2) (l:=hs++[O.list []]++[O.dead]) (a0:=scO (AL (A9 ws) σ)) (c:=A8 "while scanning a quoted scalar") (p:=A8 "found unexpected end of stream") (c1:=cc) (c2:=0) (f1:=ff) (f2:=Bt (AL (A9 ws) σ))) (an (ga (l:=hs++[O.list []]++[O.dead]) (o:=O.inst 9 [(A8 "context",V.str (A8 "while scanning a quoted scalar")),(A8 "context_mark",V.rcd cc ff),(A8 "problem",V.str (A8 "found unexpected end of stream")),(A8 "problem_mark",V.rcd 0 (Bt (AL (A9 ws) σ))),(A8 "note",V.none)]) (r:=[])) trivial))))))) (by kernel_rfl)
theorem Vt {w x:List Nat}(hws:Cf ws)(hb:DQ w l (x++r))(hr:HS x r)(h:Rd σ (ws++(w++(x++r)))):
  ∃h',D2 (S ns) (d+6) 36 [.obj 0,.bool true,.rcd cc ff] [] (scO σ::hs) (.rcd 9 (Cq Jf (.rcd cc ff) Lk (mk (AL (ws++(w++x)).length σ)))) h':=by
 refine hb.head fun q w' eb hq hl=>?_
 subst eb
 have hx:q∉[32,9]:=JK hq
 have hx0:q≠0:=fun e=>absurd (e▸hq:0∈BRK) (by decide)
 have hxb:q∈[13,10,133,8232,8233]:=hq
 have e1:=NI (ns:=ns) (d:=d+4) (hs:=hs++[.list []]) (c:=hs.length+1) (a:=.bool true) (b:=.rcd cc ff) hx (pre:=[]) hws h
 have e2:=Jo (ns:=ns) (d:=d+3) (hs:=hs++[.list []]) h
 have e3:=Kc (ns:=ns) (d:=d+3) (hs:=hs++[.list []]) h
 have h2:=h.skip
 have h2':Rd (AL ws.length σ) (q::(w'++(x++r))):=h2
 have e5:AN (S ns) (d+5) 38 [.obj 0] [] (scO (AL ws.length σ)::(hs++[.list []])) (.str ⟨l.toArray⟩) (scO (AL (q::w').length (AL ws.length σ))::(hs++[.list []])):=by
  refine AA hr.rest fun z hr=>AA hr fun u e=>?_
  subst e
  rcases x with _|⟨y,x⟩
  ·exact J5 h2 hb
  ·exact J5 h2 hb
 have h3:=h2.skip
 rw[←B9] at h3 e5
 refine AA (Pi (ns:=ns) (d:=d) (hs:=hs++[.list []]) hr (a:=.bool true) (cc:=cc) (ff:=ff) h3) fun h' e6=>?_
 rw[←B9] at e6
 rw[show ws.length+(q::w').length+x.length=(ws++(q::w'++x)).length from by rw[AF,AF,BP]] at e6
 refine⟨h',?_⟩
 exact D2.by [.a 2,.w (Fl.next) (St.mk (I4 (A9 hs+1) (V.bool true) (V.rcd cc ff) (A9 ws)) (scO σ::(hs++[O.list []]))),.c (V.str (Str.mk (AE ws))) (scO σ::(hs++[O.list []])),.a 1,.c (V.none) (scO (AL (A9 ws) σ)::(hs++[O.list []])),.c (Ai q) (scO (AL (A9 ws) σ)::(hs++[O.list []])),.a 1,.f,.t,.c (V.str (Str.mk (AE l))) (scO (AL (A9 ws+A9 (q::w')) σ)::(hs++[O.list []])),.a 1,.x (V.rcd 9 (Cq Jf (V.rcd cc ff) Lk (mk (AL (A9 (ws++(q::w'++x))) σ)))) (h')] (an e1 (an e2 (an e3 (an (Bi (ns:=ns) (σ:=AL (A9 ws) σ) (d:=d+4) (hs:=hs++[O.list []]) (r:=w'++(x++r)) (c:=q) (h:=h2')) (an (L7 (c:=q) (h:=hx0)) (an (GG (c:=q) (h:=hq)) (an e5 (an e6 trivial)))))))) (by kernel_rfl)
end
noncomputable def HU (S:BD)(d:Nat)(ss:List Stmt)(s:St)(v:V)(s':St):Prop:=∀k e o,DA S o (e v s')→DA S o (Cy (E S 40) d ss s k e)
theorem HU.by {S:BD}{d:Nat}{ss:List Stmt}{s:St}{v:V}{s':St}(is:List Dz){p:Prop}(hp:p)(e:XR S is 40 d ss s=XK p v s'):HU S d ss s v s':=
 fun k e' o y=>DR hp (HW e k e') y
theorem CR.appX {S:BD}{d:Nat}{a b:List Stmt}{s s1 s2:St}{v:V}(x:CR S d a s .next s1)(y:HU S d b s1 v s2):HU S d (a++b) s v s2:=fun k e o z=>by
 rw[Pa];exact x _ e o (y k e o z)
theorem Dd.ret {S:BD}{d:Nat}{t:Expr}{b:List Stmt}{s s':St}{v:V}(hT:∀k e,(E S 40).tr d t s k e=k true s)(x:HU S d b s v s'):Dd S d t b s v s':=fun k e o z=>by
 refine DA.stp ?_
 show DA S o ((E S 40).tr d t s (fun q s=>Ej q ((Cy (E S 40) d b).bind (GU (Go d t b))) (.pure .next) s k e) e)
 rw[hT]
 exact(x (fun f s=>GU (Go d t b) f s k e) e o z).imp fun n h=>h
theorem Dd.next {S:BD}{d:Nat}{t:Expr}{b:List Stmt}{s s1 s':St}{v:V}(hT:∀k e,(E S 40).tr d t s k e=k true s)(x:CR S d b s .next s1)(n:Dd S d t b s1 v s'):Dd S d t b s v s':=fun k e o z=>by
 refine DA.stp ?_
 show DA S o ((E S 40).tr d t s (fun q s=>Ej q ((Cy (E S 40) d b).bind (GU (Go d t b))) (.pure .next) s k e) e)
 rw[hT]
 exact(x (fun f s=>GU (Go d t b) f s k e) e o (n k e o z)).imp fun n h=>h
noncomputable abbrev MZ:V:=.str "while scanning a double-quoted scalar"
section
variable {ns:List Int}{σ:Sc}{c d:Nat}{hs:List O}{r:List Nat}{cc:Nat}{ff:List (Str×V)}{L CH K CO:V}
theorem Sw {e:Nat}(he:esc e=none)(hn:Cz e=none)(hb:e∉BRK)(hp:e<1114112)(hL:Az L=true)(hK:Az K=true)(hCO:Az CO=true)(h:Rd σ (92::e::r)):
  ∃s',HU (S ns) (d+6) Jh ⟨Cd (c+1) (.rcd cc ff) L (Ai 92) K CO,scO σ::hs⟩ (.rcd 9 (Cq MZ (.rcd cc ff) .txt (mk (AL 1 σ)))) s':=by
 have e1:=EW (ns:=ns) (d:=d+3) (hs:=hs) h
 have h1:=h.next
 have k1:=JN he
 have k2:=O8 hn
 have hb':e∉[13,10,133,8232,8233]:=hb
 have k3:LF ⟨#[e]⟩=true:=Nat.ble_eq_true_of_le hp
 refine⟨⟨Cd (c+1) (.rcd cc ff) L (Ai e) K CO,scO (AL 1 σ)::exH hs (Cq MZ (.rcd cc ff) .txt (mk (AL 1 σ)))⟩,?_⟩
 unfold mk Bt
 exact HU.by [.a 11,.c (V.none) (scO (AL 1 σ)::hs),.c (Ai e) (scO (AL 1 σ)::hs),.a 1,.v .oval (none),.a 1,.v .oval (none),.a 1,.f,.t,.c (mk (AL 1 σ)) (scO (AL 1 σ)::(hs++[O.dead])),.c (V.none) (scO (AL 1 σ)::(hs++[O.dead]++[O.inst 9 (Cq (V.str (A8 "while scanning a double-quoted scalar")) (V.rcd cc ff) V.txt (V.rcd 0 (Bt (AL 1 σ))))])),.v .ob (O.inst 9 [(A8 "context",V.str (A8 "while scanning a double-quoted scalar")),(A8 "context_mark",V.rcd cc ff),(A8 "problem",V.txt),(A8 "problem_mark",V.rcd 0 (Bt (AL 1 σ))),(A8 "note",V.none)])] (an e1 (an (Bi (ns:=ns) (σ:=AL 1 σ) (d:=d+4) (hs:=hs) (r:=r) (c:=e) (h:=h1)) (an k1 (an k2 (an (LZ (c:=e) (h:=hb)) (an k3 (an (ED (ns:=ns) (σ:=AL 1 σ) (d:=d+3) (hs:=hs)) (an (Rx (ns:=ns) (d:=d+4) (l:=hs++[O.dead]) (a0:=scO (AL 1 σ)) (c:=A8 "while scanning a double-quoted scalar") (c1:=cc) (c2:=0) (f1:=ff) (f2:=Bt (AL 1 σ))) (an (ga (l:=hs++[O.dead]) (o:=O.inst 9 [(A8 "context",V.str (A8 "while scanning a double-quoted scalar")),(A8 "context_mark",V.rcd cc ff),(A8 "problem",V.txt),(A8 "problem_mark",V.rcd 0 (Bt (AL 1 σ))),(A8 "note",V.none)]) (r:=[])) trivial))))))))) (by kernel_rfl)
theorem bF {hx pre:List Nat}{n:Nat}{y:Nat}(hn:n=2∨n=4∨n=8)(hy:y∉HEX)(hp:y<1114112):∀{K:V},Az K=true→(∀y∈hx,y∈HEX)→(pre++hx).length<n→Rd σ (pre++(hx++y::r))→
  ∃s',HT (S ns) (d+3) Sr (.rng 0 (n:Int)) pre.length Sq ⟨Cd c (.rcd cc ff) (.int (n:Int)) CH K CO,scO σ::hs⟩ (.rcd 9 (Cq MZ (.rcd cc ff) .txt (mk σ))) s':=by
 induction hx generalizing pre with
 |nil=>
  intro K hK _ hl h
  rw[AK] at hl
  have k3:(LE (n:Int)&&LF ⟨#[y]⟩)=true:=AP.mpr ⟨by rcases hn with e|e|e<;>(subst e;rfl),Nat.ble_eq_true_of_le hp⟩
  have h:Rd σ (pre++y::r):=h
  refine⟨⟨Cd c (.rcd cc ff) (.int (n:Int)) CH (.int (pre.length:Int)) CO,scO σ::exH hs (Cq MZ (.rcd cc ff) .txt (mk σ))⟩,?_⟩
  unfold mk Bt
  exact HT.by [.v .oval (some (V.int (↑(A9 pre):Int))),.t,.c (Ai y) (scO σ::hs),.t,.c (Ai y) (scO σ::hs),.t,.c (mk σ) (scO σ::(hs++[O.dead])),.c (V.none) (scO σ::(hs++[O.dead]++[O.inst 9 (Cq (V.str (A8 "while scanning a double-quoted scalar")) (V.rcd cc ff) V.txt (V.rcd 0 (Bt σ)))])),.v .ob (O.inst 9 [(A8 "context",V.str (A8 "while scanning a double-quoted scalar")),(A8 "context_mark",V.rcd cc ff),(A8 "problem",V.txt),(A8 "problem_mark",V.rcd 0 (Bt σ)),(A8 "note",V.none)])] (an (Q4 (j:=A9 pre) (n:=n) (h:=hl)) (an (B8 (u:=K) (v:=V.int (↑(A9 pre):Int)) (h:=hK) (h2:=(by rfl))) (an (Ec (ns:=ns) (σ:=σ) (d:=d+1) (hs:=hs) (x:=pre) (r:=r) (c:=y) (h:=h)) (an (congrArg not (ZZ (c:=y) (h:=hy))) (an (Ec (ns:=ns) (σ:=σ) (d:=d+1) (hs:=hs) (x:=pre) (r:=r) (c:=y) (h:=h)) (an k3 (an (ED (ns:=ns) (σ:=σ) (d:=d) (hs:=hs)) (an (Rx (ns:=ns) (d:=d+1) (l:=hs++[O.dead]) (a0:=scO σ) (c:=A8 "while scanning a double-quoted scalar") (c1:=cc) (c2:=0) (f1:=ff) (f2:=Bt σ)) (an (ga (l:=hs++[O.dead]) (o:=O.inst 9 [(A8 "context",V.str (A8 "while scanning a double-quoted scalar")),(A8 "context_mark",V.rcd cc ff),(A8 "problem",V.txt),(A8 "problem_mark",V.rcd 0 (Bt σ)),(A8 "note",V.none)]) (r:=[])) trivial))))))))) (by kernel_rfl)
 |cons z hx ih=>
  intro K hK hh hl h
  refine AA (ih (pre:=pre++[z]) (K:=.int (pre.length:Int)) rfl (fun q hq=>hh q (.tail _ hq)) (by rw[AB];exact hl) (h.as (by simp))) fun s' e=>?_
  rw[AF (bs:=[z])] at e
  have e:HT (S ns) (d+3) Sr (.rng 0 (n:Int)) (pre.length+1) Sq ⟨Cd c (.rcd cc ff) (.int (n:Int)) CH (.int (pre.length:Int)) CO,scO σ::hs⟩ _ s':=e
  have hz:=hh z (.head _)
  have hj:pre.length<n:=Bk (by rw[AF];exact BM ..) hl
  refine⟨s',?_⟩
  refine HT.go (s1:=St.mk [(A8 "self",V.obj 0),(A8 "double",V.bool true),(A8 "start_mark",V.rcd cc ff),(A8 "chunks",V.obj c),(A8 "length",V.int (↑n:Int)),(A8 "ch",CH),(A8 "k",V.int (↑(A9 pre):Int)),(A8 "code",CO),(A8 "range",V.ty "range"),(A8 "ScannerError",V.cls 9),(A8 "int",V.ty "int"),(A8 "chr",V.bi "chr")] (scO σ::hs)) [.v .oval (some (V.int (↑(A9 pre):Int))),.t,.c (Ai z) (scO σ::hs),.f] ?_ (an (Q4 (j:=A9 pre) (n:=n) (h:=hj)) (an (B8 (u:=K) (v:=V.int (↑(A9 pre):Int)) (h:=hK) (h2:=(by rfl))) (an (Ec (ns:=ns) (σ:=σ) (d:=d+1) (hs:=hs) (x:=pre) (r:=FL hx (y::r)) (c:=z) (h:=h)) (an (congrArg not (VN (c:=z) (h:=hz))) trivial)))) (by kernel_rfl)
  exact e
theorem Wk {e n:Nat}(h:Cz e=some n):n=2∨n=4∨n=8:=by
 unfold Cz Ao at h
 simp only[Bc,List.lookup_nil] at h
 repeat' split at h
 all_goals first|cases h|skip
 all_goals first|exact .inl rfl|exact .inr (.inl rfl)|exact .inr (.inr rfl)
theorem Ps {e n y:Nat}{hx:List Nat}(he:Cz e=some n)(hh:∀y∈hx,y∈HEX)(hl:hx.length<n)(hy:y∉HEX)(hp:y<1114112)(hL:Az L=true)(hK:Az K=true)(hCO:Az CO=true)(h:Rd σ (92::e::(hx++y::r))):
  ∃s',HU (S ns) (d+6) Jh ⟨Cd (c+1) (.rcd cc ff) L (Ai 92) K CO,scO σ::hs⟩ (.rcd 9 (Cq MZ (.rcd cc ff) .txt (mk (AL 2 σ)))) s':=by
 obtain⟨hne,hn0,hn8⟩:=Hk he
 have e1:=EW (ns:=ns) (d:=d+3) (hs:=hs) h
 have h1:=h.next
 have e3:AN (S ns) (d+5) 6 [.obj 0] [] (scO (AL 1 σ)::hs) .none (scO (AL 1 (AL 1 σ))::hs):=by
  rcases hx with _|⟨z,hx⟩
  ·exact EW h1
  ·exact EW h1
 have h2:=h1.next
 rw[←B9] at e3 h2
 refine AA (bF (ns:=ns) (d:=d+3) (c:=c+1) (hs:=hs) (cc:=cc) (ff:=ff) (CH:=Ai e) (CO:=CO) (pre:=[]) (Wk he) hy hp hK hh hl h2) fun s' e4=>?_
 have e4:HT (S ns) (d+6) Sr (.rng 0 (n:Int)) 0 Sq ⟨Cd (c+1) (.rcd cc ff) (.int (n:Int)) (Ai e) K CO,scO (AL 2 σ)::hs⟩ _ s':=e4
 have k1:=JN hne
 have k2:=VD he
 refine⟨s',?_⟩
 exact HU.by [.a 11,.c (V.none) (scO (AL 1 σ)::hs),.c (Ai e) (scO (AL 1 σ)::hs),.a 1,.v .oval (none),.a 1,.v .oval (some (V.int (↑n:Int))),.a 1,.v .oval (some (V.int (↑n:Int))),.a 1,.t,.c (V.none) (scO (AL (1+1) σ)::hs),.t,.t,.y (V.rcd 9 (Cq MZ (V.rcd cc ff) V.txt (mk (AL (1+1) σ)))) (s')] (an e1 (an (Bi (ns:=ns) (σ:=AL 1 σ) (d:=d+4) (hs:=hs) (r:=hx++y::r) (c:=e) (h:=h1)) (an k1 (an k2 (an k2 (an (B8 (u:=L) (v:=V.int (↑n:Int)) (h:=hL) (h2:=(by rfl))) (an e3 (an (V6 (n:=n) (h:=hn8)) (an (V6 (n:=n) (h:=hn8)) (an e4 trivial)))))))))) (by kernel_rfl)
theorem Pt {w x l:List Nat}{xs:List (List Nat)}(hc:hs[c]? =some (.list (xs.map AV)))(hb:DQ w l (x++r))(hr:HS x r)(hL:Az L=true)(hK:Az K=true)(hCO:Az CO=true)(h:Rd σ (92::(w++(x++r)))):
  ∃s',HU (S ns) (d+6) Jh ⟨Cd (c+1) (.rcd cc ff) L (Ai 92) K CO,scO σ::hs⟩ (.rcd 9 (Cq Jf (.rcd cc ff) Lk (mk (AL (92::(w++x)).length σ)))) s':=by
 refine hb.head fun q w' eb hq hl=>?_
 subst eb
 have e1:=EW (ns:=ns) (d:=d+3) (hs:=hs) h
 have h1:Rd (AL 1 σ) (q::w'++(x++r)):=h.next
 have h1':Rd (AL 1 σ) (q::(w'++(x++r))):=h1
 have e3:AN (S ns) (d+5) 38 [.obj 0] [] (scO (AL 1 σ)::hs) (.str ⟨l.toArray⟩) (scO (AL (q::w').length (AL 1 σ))::hs):=by
  refine AA hr.rest fun z hr=>AA hr fun u e=>?_
  subst e
  rcases x with _|⟨y,x⟩
  ·exact J5 h1 hb
  ·exact J5 h1 hb
 have h2:=h1.skip
 rw[←B9] at e3 h2
 refine AA (Pi (ns:=ns) (d:=d) (hs:=hs) hr (a:=.bool true) (cc:=cc) (ff:=ff) h2) fun h' e4=>?_
 rw[←B9] at e4
 rw[show 1+(q::w').length+x.length=(92::(q::w'++x)).length from by rw[AQ (a:=92),AF];lia] at e4
 have k:=GR hq
 have k1:=JN k.1
 have k2:=O8 k.2
 have hq':q∈[13,10,133,8232,8233]:=hq
 refine⟨⟨Cd (c+1) (.rcd cc ff) L (Ai q) K CO,h'⟩,?_⟩
 exact HU.by [.a 11,.c (V.none) (scO (AL 1 σ)::hs),.c (Ai q) (scO (AL 1 σ)::hs),.a 1,.v .oval (none),.a 1,.v .oval (none),.a 1,.t,.c (V.str (Str.mk (AE l))) (scO (AL (1+A9 (q::w')) σ)::hs),.v .ob (O.list (AC AV xs)),.x (V.rcd 9 (Cq Jf (V.rcd cc ff) Lk (mk (AL (A9 (92::(q::w'++x))) σ)))) (h')] (an e1 (an (Bi (ns:=ns) (σ:=AL 1 σ) (d:=d+4) (hs:=hs) (r:=w'++(x++r)) (c:=q) (h:=h1')) (an k1 (an k2 (an (GG (c:=q) (h:=hq)) (an e3 (an hc (an e4 trivial)))))))) (by kernel_rfl)
end
inductive FI:List Nat→List Nat→Prop
 |unk {run u:List Nat} {e:Nat}:EM run→esc e=none→Cz e=none→e∉BRK→e<1114112→FI (run++[92]) (e::u)
 |short {run hx u:List Nat} {e n y:Nat}:EM run→Cz e=some n→(∀y∈hx,y∈HEX)→hx.length<n→y∉HEX→y<1114112→FI (run++[92,e]) (hx++y::u)
 |doc {run w l y r:List Nat}:EM run→DQ w l (y++r)→HS y r→FI (run++92::(w++y)) r
 |apos {run x r:List Nat}:EM run→FI x r→FI (run++39::x) r
 |esc {run x r:List Nat} {e v:Nat}:EM run→esc e=some v→FI x r→FI (run++92::e::x) r
 |code {run hx x r:List Nat} {e n v:Nat}:EM run→Cz e=some n→hx.length=n→(∀y∈hx,y∈HEX)→EB hx 0=some v→v<1114112→FI x r→FI (run++92::e::(hx++x)) r
 |line {run w l y t1 x r:List Nat}:EM run→DQ w l (y++(x++r))→F4 y t1 (x++r)→FI x r→FI (run++92::(w++(y++x))) r
theorem FI.rest {x r:List Nat}(h:FI x r):∃c u,r=c::u:=by
 induction h with
 |unk=>exact⟨_,_,rfl⟩
 |@short run hx u e n y=>rcases hx with _|_<;>exact⟨_,_,rfl⟩
 |doc _ _ h=>exact h.rest
 |apos _ _ ih=>exact ih
 |esc _ _ _ ih=>exact ih
 |code _ _ _ _ _ _ _ ih=>exact ih
 |line _ _ _ _ ih=>exact ih
noncomputable def Nb (ns:List Int)(d c:Nat)(cc:Nat)(ff:List (Str×V))(L CH K CO:V)(σ:Sc)(hs:List O)(x:List Nat):Prop:=
 ∃v s',Hg v (.rcd cc ff) (mk (AL x.length σ))∧Dd (S ns) (d+6) Yj NB ⟨Cd (c+1) (.rcd cc ff) L CH K CO,scO σ::hs⟩ v s'
section
variable {ns:List Int}{c d:Nat}{cc:Nat}{ff:List (Str×V)}
theorem Jk {σ:Sc}{hs:List O}{L CH K CO:V}{xs ys2:List (List Nat)}{run m x r:List Nat}{q:Nat}(hc:hs[c]? =some (.list (xs.map AV)))(hf:CZ xs (run++(q::m++(x++r))))(hL:Az L=true)(hCH:Az CH=true)(hrun:EM run)(hq:q∈GO)(h:Rd σ (run++(q::m++(x++r))))
  (T:Ib ns (d+1) c (.rcd cc ff) (.int (run.length:Int)) K CO (AL run.length σ) (hs.set c (.list ((xs++Dx run).map AV))) q (q::m).length (xs++Dx run++ys2))(l2:ys2.length≤(q::m).length)
  (ih:∀{σ:Sc} {hs:List O} {L CH K CO:V} {xs:List (List Nat)},hs[c]? =some (.list (xs.map AV))→CZ xs (x++r)→Az L=true→Az CH=true→Az K=true→Az CO=true→Rd σ (x++r)→Nb ns d c cc ff L CH K CO σ hs x):
  Nb ns d c cc ff L CH K CO σ hs (run++(q::m++x)):=by
 have e1:=NL (ns:=ns) (d:=d+2) (b:=.rcd cc ff) (K:=K) (CO:=CO) hc hf hL hCH hrun hq h
 refine AA T fun hs2 T=>AA T fun L' T=>AA T fun CH' T=>AA T fun K' T=>AA T fun CO' T=>?_
 have h2:=h.skip.skip
 have hc2:=gs (o':=.list ((xs++Dx run++ys2).map AV)) (T.1.get (gs hc))
 refine AA (ih hc2 ((hf.app (Dw run)).app l2) T.2.1 T.2.2.1 T.2.2.2.1 T.2.2.2.2.1 h2) fun v e=>AA e fun s' e3=>?_
 have T6:=T.2.2.2.2.2
 rw[←B9] at T6
 have ev:=e3.1
 have e3:=e3.2
 rw[←B9,←B9] at ev
 rw[←B9] at e3
 refine⟨v,s',?_,?_⟩
 ·rw[AF,AF];exact ev
 ·rw[←Lp] at e3 ⊢
  exact Dd.next (Ks (d:=d+1)) (e1.app T6) e3
theorem Kd {σ:Sc}{hs:List O}{L CH K CO:V}{xs:List (List Nat)}{run m r:List Nat}{v:V}(hc:hs[c]? =some (.list (xs.map AV)))(hf:CZ xs (run++92::r))(hL:Az L=true)(hCH:Az CH=true)(hrun:EM run)(h:Rd σ (run++92::r))
  (hv:Hg v (.rcd cc ff) (mk (AL m.length (AL run.length σ))))
  (T:∃s',HU (S ns) (d+6) Jh ⟨Cd (c+1) (.rcd cc ff) (.int (run.length:Int)) (Ai 92) K CO,scO (AL run.length σ)::hs.set c (.list ((xs++Dx run).map AV))⟩ v s'):
  Nb ns d c cc ff L CH K CO σ hs (run++m):=by
 have e1:=NL (ns:=ns) (d:=d+2) (b:=.rcd cc ff) (K:=K) (CO:=CO) hc hf hL hCH hrun (by decide) h
 refine AA T fun s' T=>⟨v,s',?_,?_⟩
 ·rw[AF,B9];exact hv
 ·rw[←Lp]
  exact Dd.ret (Ks (d:=d+1)) (e1.appX T)
theorem WM {x r:List Nat}(hr:FI x r):∀{σ:Sc} {hs:List O} {L CH K CO:V} {xs:List (List Nat)},hs[c]? =some (.list (xs.map AV))→CZ xs (x++r)→Az L=true→Az CH=true→Az K=true→Az CO=true→Rd σ (x++r)→Nb ns d c cc ff L CH K CO σ hs x:=by
 induction hr with
 |@unk run u e hrun he hn hb hp=>
  intro σ hs L CH K CO xs hc hf hL hCH hK hCO h
  rw[AB] at hf h
  exact Kd (m:=[92]) hc hf hL hCH hrun h ⟨_,_,rfl⟩ (Sw he hn hb hp rfl hK hCO h.skip)
 |@short run hx u e n y hrun he hh hl hy hp=>
  intro σ hs L CH K CO xs hc hf hL hCH hK hCO h
  rw[AB] at hf h
  exact Kd (m:=[92,e]) hc hf hL hCH hrun h ⟨_,_,rfl⟩ (Ps he hh hl hy hp rfl hK hCO h.skip)
 |@doc run w l y r hrun hb hrow=>
  intro σ hs L CH K CO xs hc hf hL hCH hK hCO h
  have ea:(run++92::(w++y))++r=run++92::(w++(y++r)):=by rw[AB,B0,AB]
  have hf:=hf.as ea
  have h:=h.as ea
  exact Kd (m:=92::(w++y)) hc hf hL hCH hrun h ⟨_,_,rfl⟩ (Pt (gs hc) hb hrow rfl hK hCO h.skip)
 |@apos run x r hrun hr ih=>
  intro σ hs L CH K CO xs hc hf hL hCH hK hCO h
  rw[AB] at hf h
  refine AA (Gd (x:=x) hr.rest) fun y e=>AA e fun u e=>?_
  have T:=Mc (ns:=ns) (d:=d+1) (b:=.rcd cc ff) (L:=.int (run.length:Int)) (σ:=AL run.length σ) (r:=u) (gs (o':=.list ((xs++Dx run).map AV)) hc) (hf.app (Dw run)).ok rfl hK hCO (h.skip.as (congrArg (39::·) e))
  exact Jk (m:=[]) hc hf hL hCH hrun (by decide) h T (Ak 1) ih
 |@esc run x r e v hrun he hr ih=>
  intro σ hs L CH K CO xs hc hf hL hCH hK hCO h
  rw[AB] at hf h
  refine AA (Gd (x:=x) hr.rest) fun y e'=>AA e' fun u e'=>?_
  have T:=Ni (ns:=ns) (d:=d+1) (b:=.rcd cc ff) (L:=.int (run.length:Int)) (σ:=AL run.length σ) (r:=u) he (gs (o':=.list ((xs++Dx run).map AV)) hc) (hf.app (Dw run)).ok rfl hK hCO (h.skip.as (congrArg (fun z=>92::e::z) e'))
  exact Jk (m:=[e]) hc hf hL hCH hrun (by decide) h T (Nat.le_succ 1) ih
 |@code run hx x r e n v hrun he hn hh hv hv2 hr ih=>
  intro σ hs L CH K CO xs hc hf hL hCH hK hCO h
  have ea:(run++92::e::(hx++x))++r=run++(92::e::hx++(x++r)):=by rw[AB,B0,B0,AB];rfl
  have hf:=hf.as ea
  have h:=h.as ea
  refine AA (Gd (x:=x) hr.rest) fun y e'=>AA e' fun u e'=>?_
  have T:=Mb (ns:=ns) (d:=d+1) (b:=.rcd cc ff) (L:=.int (run.length:Int)) (σ:=AL run.length σ) (r:=u) he hn hh hv hv2 (gs (o':=.list ((xs++Dx run).map AV)) hc) (hf.app (Dw run)).ok rfl hK hCO (h.skip.as (congrArg (fun z=>92::e::(hx++z)) e'))
  rw[BY 2] at T
  exact Jk (m:=e::hx) hc hf hL hCH hrun (by decide) h T (BW 1 _) ih
 |@line run w l y t1 x r hrun hb hrow hr ih=>
  intro σ hs L CH K CO xs hc hf hL hCH hK hCO h
  have ea:(run++92::(w++(y++x)))++r=run++(92::(w++y)++(x++r)):=by rw[AB,B0,AB,AB,B0,AB]
  have hf:=hf.as ea
  have h:=h.as ea
  refine hb.head fun q w' eb zz zz=>?_
  refine E2 (Ma (ns:=ns) (d:=d+1) (cc:=cc) (ff:=ff) (L:=.int (run.length:Int)) (σ:=AL run.length σ) (K:=K) (CO:=CO) hb hrow eb (gs (o':=.list ((xs++Dx run).map AV)) hc) ((hf.app (Dw run)).as (by rw[B0,AB];rfl)) rfl hK hCO (h.skip.as (by rw[B0,AB]))) fun ys hy hn T=>?_
  rw[show 1+w.length+y.length=(92::(w++y)).length from by rw[AQ,AF,BP,BY]] at T
  have e2:run++92::(w++(y++x))=run++(92::(w++y)++x):=by rw[B0,AB]
  rw[e2]
  exact Jk (m:=w++y) hc hf hL hCH hrun (by decide) h T (AM hn (by rw[AQ,AF];exact Cw (BW ..))) ih
theorem L8 {σ:Sc}{hs:List O}{x r:List Nat}(hr:FI x r)(h:Rd σ (x++r)):
  ∃v h',Hg v (.rcd cc ff) (mk (AL x.length σ))∧D2 (S ns) (d+6) 35 [.obj 0,.bool true,.rcd cc ff] [] (scO σ::hs) v h':=by
 have hl:=h.len
 refine AA (WM (ns:=ns) (d:=d) (c:=hs.length) (hs:=hs++[.list []]) (cc:=cc) (ff:=ff) (xs:=[]) hr (L:=.undef) (CH:=.undef) (K:=.undef) (CO:=.undef) ga (by unfold CZ;rw[BR,CS];exact hl) rfl rfl rfl rfl h) fun v e=>AA e fun s' e=>?_
 refine AA e.1 fun ct hv=>AA hv fun p hv=>?_
 subst hv
 have e:=e.2
 refine⟨_,s'.heap,⟨ct,p,rfl⟩,?_⟩
 exact D2.by [.a 1,.y (V.rcd 9 (Cq ct (V.rcd cc ff) p (mk (AL (A9 x) σ)))) (s')] (an e trivial) (by kernel_rfl)
end
inductive GB:List Nat→List Nat→Prop
 |eos {ws u:List Nat}:Cf ws→GB ws (0::u)
 |doc {ws w l y r:List Nat}:Cf ws→DQ w l (y++r)→HS y r→GB (ws++(w++y)) r
 |blankN {ws x1 r u:List Nat} {c:Nat}:ws≠[]→Cf ws→x1++r=c::u→c∉[32,9]→c≠0→c∉BRK→FI x1 r→GB (ws++x1) r
 |foldN {ws w l y t0 x1 r:List Nat}:Cf ws→DQ w l (y++(x1++r))→F4 y t0 (x1++r)→FI x1 r→GB ((ws++(w++y))++x1) r
 |blank {ws x1 t1 x2 r u:List Nat} {c:Nat}:ws≠[]→Cf ws→x1++(x2++r)=c::u→c∉[32,9]→c≠0→c∉BRK→E8 x1 t1 (x2++r)→GB x2 r→GB (ws++(x1++x2)) r
 |fold {ws w l y t0 x1 t1 x2 r:List Nat}:Cf ws→DQ w l (y++(x1++(x2++r)))→F4 y t0 (x1++(x2++r))→E8 x1 t1 (x2++r)→GB x2 r→GB ((ws++(w++y))++(x1++x2)) r
noncomputable def Lm (ns:List Int)(d c:Nat)(ff:List (Str×V))(σ:Sc)(hs:List O)(x:List Nat):Prop:=
 ∃v s',Hg v (.rcd 0 ff) (mk (AL x.length σ))∧Dd (S ns) (d+7) aV aa ⟨Jy (c+1) ff,scO σ::hs⟩ v s'
section
variable {ns:List Int}{c d:Nat}{ff:List (Str×V)}{hs:List O}
theorem NU {σ:Sc}{xs:List (List Nat)}(hc:hs[c]? =some (.list (xs.map AV))){x r u:List Nat}{q:Nat}{ct cm p pm:V}{hx:List O}(h:Rd σ (x++r))(e0:x++r=q::u)(hq:q≠34)(hv:Hg (.rcd 9 (Cq ct cm p pm)) (.rcd 0 ff) (mk (AL x.length σ)))
  (e:D2 (S ns) (d+6) 36 [.obj 0,.bool true,.rcd 0 ff] [] (scO σ::hs) (.rcd 9 (Cq ct cm p pm)) hx):Lm ns d c ff σ hs x:=by
 have h':=h.as e0
 have q1:=NJ hq
 refine⟨.rcd 9 (Cq ct cm p pm),⟨Jy (c+1) ff,hx⟩,hv,?_⟩
 exact Dd.by [.c (Ai q) (scO σ::hs),.t,.v .ob (O.list (AC AV xs)),.x (V.rcd 9 (Cq ct cm p pm)) (hx)] (an (Bi (ns:=ns) (σ:=σ) (d:=d+5) (hs:=hs) (r:=u) (c:=q) (h:=h')) (an (congrArg not q1) (an hc (an e trivial)))) (by kernel_rfl)
theorem QU {σ:Sc}{xs:List (List Nat)}{x0 t0 x1 r u:List Nat}{q:Nat}(hc:hs[c]? =some (.list (xs.map AV)))(hf:CZ xs (x0++(x1++r)))(h:Rd σ (x0++(x1++r)))(e0:x0++(x1++r)=q::u)(hq:q≠34)
  (sp:MW ns (d+5) 36 [.obj 0,.bool true,.rcd 0 ff] σ hs x0 t0)(hn:FI x1 r):Lm ns d c ff σ hs (x0++x1):=by
 have h':=h.as e0
 have q1:=NJ hq
 refine FF (sp) fun ys0 hs1 hy0 hn0 zz cm0 e1=>?_
 have hc1:=cm0.ext.get hc
 have g0:=cm0.lst
 have s0:=hf.ext hn0
 have n0:hs.length≠c:=fun e=>absurd (AI.mp hc).1 (by rw[e];exact CD _)
 have h1:=h.skip
 refine AA (L8 (ns:=ns) (d:=d) (hs:=hs1.set c (.list (xs.map AV++ys0.map AV))) (cc:=0) (ff:=ff) hn h1) fun v e=>AA e fun h2 e=>AA e.1 fun ct hv=>AA hv fun p hv=>?_
 subst hv
 have e2:=e.2
 rw[←B9] at e2
 refine⟨_,⟨Jy (c+1) ff,h2⟩,⟨ct,p,rfl⟩,?_⟩
 rw[AF]
 exact Dd.by [.c (Ai q) (scO σ::hs),.t,.v .ob (O.list (AC AV xs)),.c (V.obj (A9 hs+1)) (scO (AL (A9 x0) σ)::hs1),.v .ob (O.list (AC AV xs)),.t,.v .ob (O.list (AC AV ys0)),.t,.v .ob (O.list (AC AV xs++AC AV ys0)),.x (V.rcd 9 (Cq ct (V.rcd 0 ff) p (mk (AL (A9 x0+A9 x1) σ)))) (h2)] (an (Bi (ns:=ns) (σ:=σ) (d:=d+5) (hs:=hs) (r:=u) (c:=q) (h:=h')) (an (congrArg not q1) (an hc (an e1 (an hc1 (an (PL (a:=A9 hs) (b:=c) (h:=n0)) (an g0 (an s0 (an (gs (o':=O.list (AC AV xs++AC AV ys0)) hc1) (an e2 trivial)))))))))) (by kernel_rfl)
theorem Lz {σ:Sc}{xs:List (List Nat)}{x0 t0 x1 t1 x2 r u:List Nat}{q:Nat}(hc:hs[c]? =some (.list (xs.map AV)))(hf:CZ xs (x0++(x1++(x2++r))))(h:Rd σ (x0++(x1++(x2++r))))(e0:x0++(x1++(x2++r))=q::u)(hq:q≠34)
  (sp:MW ns (d+5) 36 [.obj 0,.bool true,.rcd 0 ff] σ hs x0 t0)(hn:E8 x1 t1 (x2++r))
  (ih:∀{σ:Sc} {hs:List O} {xs:List (List Nat)},hs[c]? =some (.list (xs.map AV))→CZ xs (x2++r)→Rd σ (x2++r)→Lm ns d c ff σ hs x2):Lm ns d c ff σ hs (x0++(x1++x2)):=by
 have h':=h.as e0
 have q1:=NJ hq
 refine FF (sp) fun ys0 hs1 hy0 hn0 zz cm0 e1=>?_
 have hc1:=cm0.ext.get hc
 have g0:=cm0.lst
 have s0:=hf.ext hn0
 have n0:hs.length≠c:=fun e=>absurd (AI.mp hc).1 (by rw[e];exact CD _)
 have hf1:=hf.app hn0
 have h1:=h.skip
 refine HD (HZ (ns:=ns) (d:=d+1) (hs:=hs1.set c (.list (xs.map AV++ys0.map AV))) (cc:=0) (ff:=ff) hn h1) fun ys1 hs2 hy1 hn1 cm1 e2=>?_
 rw[←B9] at e2
 have hc2:=cm1.ext.get (gs hc1)
 rw[←Aa] at hc2
 have g1:=cm1.lst
 have s1:=hf1.ext hn1
 have n1:(hs1.set c (.list (xs.map AV++ys0.map AV))).length≠c:=fun e=>absurd (AI.mp hc1).1 (by rw[D0] at e;rw[e];exact CD _)
 rw[Aa] at hc2 s1
 have h2:=h1.skip
 rw[←B9] at h2
 refine AA (ih (hs:=hs2.set c (.list ((xs.map AV++ys0.map AV)++ys1.map AV))) (xs:=xs++ys0++ys1) (by rw[Aa,Aa];exact gs hc2) (hf1.app hn1) h2) fun v e=>AA e fun s' e=>?_
 have ev:=e.1
 have e3:=e.2
 rw[←B9,BP] at ev
 refine⟨v,s',?_,?_⟩
 ·rw[AF,AF];exact ev
 ·refine Dd.go (s1:=St.mk [(A8 "self",V.obj 0),(A8 "style",V.str (A8 "\"")),(A8 "double",V.bool true),(A8 "chunks",V.obj (c+1)),(A8 "start_mark",V.rcd 0 ff),(A8 "quote",V.str (Str.mk #[34])),(A8 "end_mark",V.undef),(A8 "ScalarToken",V.cls 6)] (scO (AL (A9 x0+A9 x1) σ)::Bb hs2 c (O.list (AC AV xs++AC AV ys0++AC AV ys1)))) [.c (Ai q) (scO σ::hs),.t,.v .ob (O.list (AC AV xs)),.c (V.obj (A9 hs+1)) (scO (AL (A9 x0) σ)::hs1),.v .ob (O.list (AC AV xs)),.t,.v .ob (O.list (AC AV ys0)),.t,.v .ob (O.list (AC AV xs++AC AV ys0)),.c (V.obj (A9 (Bb hs1 c (O.list (AC AV xs++AC AV ys0)))+1)) (scO (AL (A9 x0+A9 x1) σ)::hs2),.v .ob (O.list (AC AV xs++AC AV ys0)),.t,.v .ob (O.list (AC AV ys1)),.t] ?_ (an (Bi (ns:=ns) (σ:=σ) (d:=d+5) (hs:=hs) (r:=u) (c:=q) (h:=h')) (an (congrArg not q1) (an hc (an e1 (an hc1 (an (PL (a:=A9 hs) (b:=c) (h:=n0)) (an g0 (an s0 (an (gs (o':=O.list (AC AV xs++AC AV ys0)) hc1) (an e2 (an hc2 (an (PL (a:=A9 (Bb hs1 c (O.list (AC AV xs++AC AV ys0)))) (b:=c) (h:=n1)) (an g1 (an s1 trivial)))))))))))))) (by kernel_rfl)
  exact e3
theorem WN {x r:List Nat}(hr:GB x r):∀{σ:Sc} {hs:List O} {xs:List (List Nat)},hs[c]? =some (.list (xs.map AV))→CZ xs (x++r)→Rd σ (x++r)→Lm ns d c ff σ hs x:=by
 induction hr with
 |@eos ws u hws=>
  intro σ hs xs hc hf h
  refine AA (Vu (ns:=ns) (d:=d+2) (hs:=hs) (cc:=0) (ff:=ff) hws h) fun h' e=>?_
  rcases ws with _|⟨w,ws⟩
  ·exact NU hc h rfl (by decide) ⟨_,_,rfl⟩ e
  ·exact NU hc h rfl (fun e=>absurd (e▸hws w (.head _)) (by decide)) ⟨_,_,rfl⟩ e
 |@doc ws w l y r hws hb hrow=>
  intro σ hs xs hc hf h
  refine AA (Vt (ns:=ns) (d:=d) (hs:=hs) (cc:=0) (ff:=ff) hws hb hrow (h.as (by rw[AB,AB]))) fun h' e=>?_
  refine hb.head fun q w' eb hq zz=>?_
  subst eb
  rcases ws with _|⟨z,ws⟩
  ·exact NU hc h rfl (fun e=>absurd (e▸hq) (by decide)) ⟨_,_,rfl⟩ e
  ·exact NU hc h rfl (fun e=>absurd (e▸hws z (.head _)) (by decide)) ⟨_,_,rfl⟩ e
 |@blankN ws x1 r u q hws0 hws e0 hx hx0 hxb hn=>
  intro σ hs xs hc hf h
  rw[AB] at hf h
  have sp:=M3 (ns:=ns) (d:=d+2) (hs:=hs) (a:=.bool true) (b:=.rcd 0 ff) (r:=u) hws hx hx0 hxb hws0 (h.as (by rw[e0]))
  rcases ws with _|⟨w,ws⟩
  ·exact(hws0 rfl).elim
  ·exact QU hc hf h rfl (fun e=>absurd (e▸hws w (.head _)) (by decide)) sp hn
 |@foldN ws w l y t0 x1 r hws hb hrow hn=>
  intro σ hs xs hc hf h
  rw[AB (ws++(w++y))] at hf h
  have sp:=M2 (ns:=ns) (d:=d+1) (hs:=hs) (cc:=0) (ff:=ff) hws hb hrow (h.as (by rw[AB,AB]))
  refine hb.head fun q w' eb hq zz=>?_
  subst eb
  rcases ws with _|⟨z,ws⟩
  ·exact QU hc hf h rfl (fun e=>absurd (e▸hq) (by decide)) sp hn
  ·exact QU hc hf h rfl (fun e=>absurd (e▸hws z (.head _)) (by decide)) sp hn
 |@blank ws x1 t1 x2 r u q hws0 hws e0 hx hx0 hxb hn ht ih=>
  intro σ hs xs hc hf h
  rw[AB,AB] at hf h
  have sp:=M3 (ns:=ns) (d:=d+2) (hs:=hs) (a:=.bool true) (b:=.rcd 0 ff) (r:=u) hws hx hx0 hxb hws0 (h.as (by rw[e0]))
  rcases ws with _|⟨w,ws⟩
  ·exact(hws0 rfl).elim
  ·exact Lz hc hf h rfl (fun e=>absurd (e▸hws w (.head _)) (by decide)) sp hn ih
 |@fold ws w l y t0 x1 t1 x2 r hws hb hrow hn ht ih=>
  intro σ hs xs hc hf h
  rw[AB (ws++(w++y)),AB x1] at hf h
  have sp:=M2 (ns:=ns) (d:=d+1) (hs:=hs) (cc:=0) (ff:=ff) hws hb hrow (h.as (by rw[AB,AB]))
  refine hb.head fun q w' eb hq zz=>?_
  subst eb
  rcases ws with _|⟨z,ws⟩
  ·exact Lz hc hf h rfl (fun e=>absurd (e▸hq) (by decide)) sp hn ih
  ·exact Lz hc hf h rfl (fun e=>absurd (e▸hws z (.head _)) (by decide)) sp hn ih
end
noncomputable def Ka (t:Int)(ix ln cl:Int)(m:V):List (Str×V):=[("token_number",.int t),("required",.bool false),("index",.int ix),("line",.int ln),("column",.int cl),("mark",m)]
noncomputable def Bo (κ:Sc):V:=.rcd 7 (Ka κ.tn κ.ix κ.ln κ.cl (mk κ))
inductive J1 (κ:Sc):List (V×V)→Prop
 |no:J1 κ []
 |yes:J1 κ [(.int 0,Bo κ)]
structure CE (Z hs:List O)(σ:Sc)(T:List V)(D:List (V×V)):Prop where
 tk:hs[σ.tk]? =some (.list T)
 ks:hs[σ.keys]? =some (.dict D)
 ne:σ.tk≠σ.keys
 nf:DY hs
 kp:∀j,j<Z.length→hs[j]? =Z[j]?
 k1:Z.length≤σ.tk
 k2:Z.length≤σ.keys
section
variable {ns:List Int}{Z:List O}{d:Nat}{σ κ:Sc}{hs:List O}{T:List V}{D:List (V×V)}
theorem CE.ext (f:CE Z hs σ T D){hs':List O}(x:B5 hs hs'){σ':Sc}(e1:σ'.tk=σ.tk)(e2:σ'.keys=σ.keys):CE Z hs' σ' T D:=
 ⟨by rw[e1];exact x.get f.tk,by rw[e2];exact x.get f.ks,by rw[e1,e2];exact f.ne,x.2.2 f.nf,fun j hj=>(x.2.1 j (Am hj (BU (Bk f.k1 (AI.mp f.tk).1)))).trans (f.kp j hj),e1▸f.k1,e2▸f.k2⟩
theorem CE.sett (f:CE Z hs σ T D)(T':List V):CE Z (hs.set σ.tk (.list T')) σ T' D:=
 ⟨gs f.tk,(B7 f.ne).trans f.ks,f.ne,f.nf.set rfl,fun j hj=>(B7 (CT (Am hj f.k1))).trans (f.kp j hj),f.k1,f.k2⟩
theorem CE.setk (f:CE Z hs σ T D)(D':List (V×V)):CE Z (hs.set σ.keys (.dict D')) σ T D':=
 ⟨(B7 (DS f.ne)).trans f.tk,gs f.ks,f.ne,f.nf.set rfl,fun j hj=>(B7 (CT (Am hj f.k2))).trans (f.kp j hj),f.k1,f.k2⟩
noncomputable def Po:Expr:=wT (Bv (C9 19) 0)
noncomputable def Pn:List Stmt:=wB (Bv (C9 19) 0)
noncomputable abbrev Ey (a b:V):List (Str×V):=[("self",.obj 0),("level",a),("key",b),("list",.ty "list"),("ScannerError",.cls 9)]
theorem Kw (f:CE Z hs σ T []):AN (S ns) (d+2) 19 [.obj 0] [] (scO σ::hs) .none (scO σ::(hs++[O.list []])):=by
 have g:=f.ks
 have e:BK (S ns) (d+2) Po (.list (hs.length+1) false) 0 Pn ⟨Ey .undef .undef,scO σ::(hs++[O.list []])⟩ .next ⟨Ey .undef .undef,scO σ::(hs++[O.list []])⟩:=by
  exact BK.by [.v .ob (O.list []),.a 2] (an (ga (l:=hs) (o:=O.list []) (r:=[])) trivial) (by kernel_rfl)
 exact AN.by [.v .ob (O.dict []),.a 1,.v .ob (O.list []),.w (Fl.next) (St.mk (Ey V.undef V.undef) (scO σ::(hs++[O.list []])))] (an g (an (ga (l:=hs) (o:=O.list []) (r:=[])) (an e trivial))) (by kernel_rfl)
theorem R9 (f:CE Z hs σ T [(.int 0,Bo κ)]):
  ∃D' hs',CE Z hs' σ T D'∧J1 κ D'∧AN (S ns) (d+2) 19 [.obj 0] [] (scO σ::hs) .none (scO σ::hs'):=by
 have g:=f.ks
 have f1:=f.ext (σ':=σ) (B5.app hs (o:=.list [.int 0])) rfl rfl
 have g1:=f1.ks
 have f2:=f1.setk []
 have gone:BK (S ns) (d+2) Po (.list (hs.length+1) false) 0 Pn ⟨Ey .undef .undef,scO σ::(hs++[O.list [.int 0]])⟩ .next ⟨Ey (.int 0) (Bo κ),scO σ::(hs++[O.list [.int 0]]).set σ.keys (.dict [])⟩→∃D' hs',CE Z hs' σ T D'∧J1 κ D'∧AN (S ns) (d+2) 19 [.obj 0] [] (scO σ::hs) .none (scO σ::hs'):=fun e=>by
  refine⟨[],(hs++[O.list [.int 0]]).set σ.keys (.dict []),f2,.no,?_⟩
  exact AN.by [.v .ob (O.dict [(V.int 0,Bo κ)]),.a 1,.v .ob (O.list [V.int 0]),.w (Fl.next) (St.mk (Ey (V.int 0) (Bo κ)) (scO σ::Bb (hs++[O.list [V.int 0]]) (Sc.keys σ) (O.dict [])))] (an g (an (ga (l:=hs) (o:=O.list [V.int 0]) (r:=[])) (an e trivial))) (by kernel_rfl)
 have hk:σ.keys≠hs.length:=fun e=>absurd (AI.mp f.ks).1 (by rw[e];exact CD _)
 have hN:((hs++[O.list [.int 0]]).set σ.keys (.dict []))[hs.length]? =some (.list [.int 0]):=(B7 hk).trans ga
 by_cases q1:decide ((κ.ln:Int)=(σ.ln:Int))=true
 ·by_cases q2:decide ((1024:Int)<(σ.ix:Int) - (κ.ix:Int))=true
  ·refine gone ?_
   have e:BK (S ns) (d+2) Po (.list (hs.length+1) false) 1 Pn ⟨Ey (.int 0) (Bo κ),scO σ::(hs++[O.list [.int 0]]).set σ.keys (.dict [])⟩ .next ⟨Ey (.int 0) (Bo κ),scO σ::(hs++[O.list [.int 0]]).set σ.keys (.dict [])⟩:=by
    exact BK.by [.v .ob (O.list [V.int 0]),.a 2] (an hN trivial) (by kernel_rfl)
   refine BK.go (s1:=St.mk [(A8 "self",V.obj 0),(A8 "level",V.int 0),(A8 "key",V.rcd 7 (Ka (↑(Sc.tn κ):Int) (↑(Sc.ix κ):Int) (↑(Sc.ln κ):Int) (↑(Sc.cl κ):Int) (mk κ))),(A8 "list",V.ty "list"),(A8 "ScannerError",V.cls 9)] (scO σ::Bb (hs++[O.list [V.int 0]]) (Sc.keys σ) (O.dict []))) [.v .ob (O.list [V.int 0]),.a 3,.v .ob (O.dict [(V.int 0,Bo κ)]),.a 3,.f,.t,.a 2,.v .ob (O.dict [(V.int 0,Bo κ)]),.a 2] ?_ (an (ga (l:=hs) (o:=O.list [V.int 0]) (r:=[])) (an g1 (an (congrArg not q1) (an q2 (an g1 trivial))))) (by kernel_rfl)
   exact e
  ·have q2:=eq_false_of_ne_true q2
   refine⟨_,hs++[O.list [.int 0]],f1,.yes,?_⟩
   have e:BK (S ns) (d+2) Po (.list (hs.length+1) false) 1 Pn ⟨Ey (.int 0) (Bo κ),scO σ::(hs++[O.list [.int 0]])⟩ .next ⟨Ey (.int 0) (Bo κ),scO σ::(hs++[O.list [.int 0]])⟩:=by
    exact BK.by [.v .ob (O.list [V.int 0]),.a 2] (an (ga (l:=hs) (o:=O.list [V.int 0]) (r:=[])) trivial) (by kernel_rfl)
   have e:BK (S ns) (d+2) Po (.list (hs.length+1) false) 0 Pn ⟨Ey .undef .undef,scO σ::(hs++[O.list [.int 0]])⟩ .next ⟨Ey (.int 0) (Bo κ),scO σ::(hs++[O.list [.int 0]])⟩:=by
    refine BK.go (s1:=St.mk [(A8 "self",V.obj 0),(A8 "level",V.int 0),(A8 "key",V.rcd 7 (Ka (↑(Sc.tn κ):Int) (↑(Sc.ix κ):Int) (↑(Sc.ln κ):Int) (↑(Sc.cl κ):Int) (mk κ))),(A8 "list",V.ty "list"),(A8 "ScannerError",V.cls 9)] (scO σ::(hs++[O.list [V.int 0]]))) [.v .ob (O.list [V.int 0]),.a 3,.v .ob (O.dict [(V.int 0,Bo κ)]),.a 3,.f,.f,.a 1] ?_ (an (ga (l:=hs) (o:=O.list [V.int 0]) (r:=[])) (an g1 (an (congrArg not q1) (an q2 trivial)))) (by kernel_rfl)
    exact e
   exact AN.by [.v .ob (O.dict [(V.int 0,Bo κ)]),.a 1,.v .ob (O.list [V.int 0]),.w (Fl.next) (St.mk (Ey (V.int 0) (Bo κ)) (scO σ::(hs++[O.list [V.int 0]])))] (an g (an (ga (l:=hs) (o:=O.list [V.int 0]) (r:=[])) (an e trivial))) (by kernel_rfl)
 ·have q1:=eq_false_of_ne_true q1
  refine gone ?_
  have e:BK (S ns) (d+2) Po (.list (hs.length+1) false) 1 Pn ⟨Ey (.int 0) (Bo κ),scO σ::(hs++[O.list [.int 0]]).set σ.keys (.dict [])⟩ .next ⟨Ey (.int 0) (Bo κ),scO σ::(hs++[O.list [.int 0]]).set σ.keys (.dict [])⟩:=by
   exact BK.by [.v .ob (O.list [V.int 0]),.a 2] (an hN trivial) (by kernel_rfl)
  refine BK.go (s1:=St.mk [(A8 "self",V.obj 0),(A8 "level",V.int 0),(A8 "key",V.rcd 7 (Ka (↑(Sc.tn κ):Int) (↑(Sc.ix κ):Int) (↑(Sc.ln κ):Int) (↑(Sc.cl κ):Int) (mk κ))),(A8 "list",V.ty "list"),(A8 "ScannerError",V.cls 9)] (scO σ::Bb (hs++[O.list [V.int 0]]) (Sc.keys σ) (O.dict []))) [.v .ob (O.list [V.int 0]),.a 3,.v .ob (O.dict [(V.int 0,Bo κ)]),.a 3,.t,.a 2,.v .ob (O.dict [(V.int 0,Bo κ)]),.a 2] ?_ (an (ga (l:=hs) (o:=O.list [V.int 0]) (r:=[])) (an g1 (an (congrArg not q1) (an g1 trivial)))) (by kernel_rfl)
  exact e
theorem Z4 (f:CE Z hs σ T D)(hD:J1 κ D):∃D' hs',CE Z hs' σ T D'∧J1 κ D'∧AN (S ns) (d+2) 19 [.obj 0] [] (scO σ::hs) .none (scO σ::hs'):=by
 cases hD with
 |no=>exact⟨[],_,f.ext (B5.app hs) rfl rfl,.no,Kw f⟩
 |yes=>exact R9 f
end
section
variable {ns:List Int}{Z:List O}{d:Nat}{σ κ:Sc}{hs:List O}{T:List V}{D:List (V×V)}
noncomputable def Yq:Expr:=wT (Bv (C9 18) 1)
noncomputable def Yo:List Stmt:=wB (Bv (C9 18) 1)
noncomputable abbrev I5 (a b c:V):List (Str×V):=[("self",.obj 0),("min_token_number",a),("level",b),("key",c)]
theorem KU {k:Nat}{o o':O}(hk:hs[k]? =some o):(hs.set k o').set k o=hs:=by
 rw[Fd]
 exact List.ext_getElem? fun j=>(Ed).trans (by
  split
  ·rename_i e
   subst e
   rw[if_pos (AI.mp hk).1,hk]
  ·rfl)
theorem Uv (f:CE Z hs σ T D):((scO σ::hs.set σ.keys (.fro D)).set (σ.keys+1) (.dict D)).all Eg=true:=by
 show(scO σ::(hs.set σ.keys (.fro D)).set σ.keys (.dict D)).all Eg=true
 rw[KU f.ks]
 exact f.nf
theorem VA (f:CE Z hs σ T []):AN (S ns) (d+2) 18 [.obj 0] [] (scO σ::hs) .none (scO σ::hs):=by
 have g:=f.ks
 have e:BK (S ns) (d+2) Yq (.dict (σ.keys+1)) 0 Yo ⟨I5 .none .undef .undef,scO σ::hs.set σ.keys (.fro [])⟩ .next ⟨I5 .none .undef .undef,scO σ::hs.set σ.keys (.fro [])⟩:=by
  exact BK.by [.v .ob (O.fro []),.a 1] (an (gs (o':=O.fro []) g) trivial) (by kernel_rfl)
 have n:=Uv f
 suffices h:AN (S ns) (d+2) 18 [.obj 0] [] (scO σ::hs) .none (scO σ::(hs.set σ.keys (.fro [])).set σ.keys (.dict [])) by rwa [KU g] at h
 exact AN.by [.a 1,.v .ob (O.dict []),.a 1,.w (Fl.next) (St.mk (I5 V.none V.undef V.undef) (scO σ::Bb hs (Sc.keys σ) (O.fro []))),.v .ob (O.fro []),.t] (an g (an e (an (gs (o':=O.fro []) g) (an n trivial)))) (by kernel_rfl)
theorem ZN (f:CE Z hs σ T [(.int 0,Bo κ)]):AN (S ns) (d+2) 18 [.obj 0] [] (scO σ::hs) (.int (κ.tn:Int)) (scO σ::hs):=by
 have g:=f.ks
 have n:=Uv f
 have e:BK (S ns) (d+2) Yq (.dict (σ.keys+1)) 1 Yo ⟨I5 (.int (κ.tn:Int)) (.int 0) (Bo κ),scO σ::hs.set σ.keys (.fro [(.int 0,Bo κ)])⟩ .next ⟨I5 (.int (κ.tn:Int)) (.int 0) (Bo κ),scO σ::hs.set σ.keys (.fro [(.int 0,Bo κ)])⟩:=by
  exact BK.by [.v .ob (O.fro [(V.int 0,Bo κ)]),.a 1] (an (gs (o':=O.fro [(V.int 0,Bo κ)]) g) trivial) (by kernel_rfl)
 have e:BK (S ns) (d+2) Yq (.dict (σ.keys+1)) 0 Yo ⟨I5 .none .undef .undef,scO σ::hs.set σ.keys (.fro [(.int 0,Bo κ)])⟩ .next ⟨I5 (.int (κ.tn:Int)) (.int 0) (Bo κ),scO σ::hs.set σ.keys (.fro [(.int 0,Bo κ)])⟩:=by
  refine BK.go (s1:=St.mk [(A8 "self",V.obj 0),(A8 "min_token_number",V.int (↑(Sc.tn κ):Int)),(A8 "level",V.int 0),(A8 "key",V.rcd 7 (Ka (↑(Sc.tn κ):Int) (↑(Sc.ix κ):Int) (↑(Sc.ln κ):Int) (↑(Sc.cl κ):Int) (mk κ)))] (scO σ::Bb hs (Sc.keys σ) (O.fro [(V.int 0,Bo κ)]))) [.v .ob (O.fro [(V.int 0,Bo κ)]),.a 2,.v .ob (O.fro [(V.int 0,Bo κ)]),.a 6] ?_ (an (gs (o':=O.fro [(V.int 0,Bo κ)]) g) (an (gs (o':=O.fro [(V.int 0,Bo κ)]) g) trivial)) (by kernel_rfl)
  exact e
 suffices h:AN (S ns) (d+2) 18 [.obj 0] [] (scO σ::hs) (.int (κ.tn:Int)) (scO σ::(hs.set σ.keys (.fro [(.int 0,Bo κ)])).set σ.keys (.dict [(.int 0,Bo κ)])) by rwa [KU g] at h
 exact AN.by [.a 1,.v .ob (O.dict [(V.int 0,Bo κ)]),.a 1,.w (Fl.next) (St.mk (I5 (V.int (↑(Sc.tn κ):Int)) (V.int 0) (Bo κ)) (scO σ::Bb hs (Sc.keys σ) (O.fro [(V.int 0,Bo κ)]))),.v .ob (O.fro [(V.int 0,Bo κ)]),.t] (an g (an e (an (gs (o':=O.fro [(V.int 0,Bo κ)]) g) (an n trivial)))) (by kernel_rfl)
theorem Tq (hd:σ.dn=true):AN (S ns) (d+1) 16 [.obj 0] [] (scO σ::hs) (.bool false) (scO σ::hs):=by
 exact AN.by [.t] (an hd trivial) (by kernel_rfl)
theorem M9 (f:CE Z hs σ [] D)(hd:σ.dn=false):AN (S ns) (d+1) 16 [.obj 0] [] (scO σ::hs) (.bool true) (scO σ::hs):=by
 have g:=f.tk
 exact AN.by [.f,.v .ob (O.list []),.a 2] (an hd (an g trivial)) (by kernel_rfl)
theorem ZP {v:V}{T:List V}(f:CE Z hs σ (v::T) [])(hT:(v::T).length≤lim)(hd:σ.dn=false):AN (S ns) (d+3) 16 [.obj 0] [] (scO σ::hs) .none (scO σ::(hs++[.list []])):=by
 have g:=f.tk
 have e1:=Kw (ns:=ns) (d:=d) f
 have e2:=VA (ns:=ns) (d:=d) (f.ext (σ':=σ) (B5.app hs (o:=.list [])) rfl rfl)
 exact AN.by [.f,.v .ob (O.list (v::T)),.t,.f,.c (V.none) (scO σ::(hs++[O.list []])),.c (V.none) (scO σ::(hs++[O.list []])),.a 1] (an hd (an g (an (At (n:=A9 T+1) (h:=(by omega))) (an (congrArg not HP) (an e1 (an e2 trivial)))))) (by kernel_rfl)
theorem ZO {v:V}{T:List V}(f:CE Z hs σ (v::T) [(.int 0,Bo κ)])(hT:(v::T).length≤lim)(hd:σ.dn=false)(ht:κ.tn=σ.tn):
  ∃D' hs',CE Z hs' σ (v::T) D'∧((D'=[]∧AN (S ns) (d+3) 16 [.obj 0] [] (scO σ::hs) .none (scO σ::hs'))∨(D'=[(.int 0,Bo κ)]∧AN (S ns) (d+3) 16 [.obj 0] [] (scO σ::hs) (.bool true) (scO σ::hs'))):=by
 have g:=f.tk
 refine BJ (R9 (ns:=ns) (d:=d) f) fun D' hs' f1 hD e1=>?_
 refine⟨D',hs',f1,?_⟩
 cases hD with
 |no=>
  refine .inl ⟨rfl,?_⟩
  have e2:=VA (ns:=ns) (d:=d) f1
  exact AN.by [.f,.v .ob (O.list (v::T)),.t,.f,.c (V.none) (scO σ::hs'),.c (V.none) (scO σ::hs'),.a 1] (an hd (an g (an (At (n:=A9 T+1) (h:=(by omega))) (an (congrArg not HP) (an e1 (an e2 trivial)))))) (by kernel_rfl)
 |yes=>
  refine .inr ⟨rfl,?_⟩
  have e2:=ZN (ns:=ns) (d:=d) f1
  have q:decide ((κ.tn:Int)=(σ.tn:Int))=true:=decide_eq_true (by rw[ht])
  exact AN.by [.f,.v .ob (O.list (v::T)),.t,.f,.c (V.none) (scO σ::hs'),.c (V.int (↑(Sc.tn κ):Int)) (scO σ::hs'),.t] (an hd (an g (an (At (n:=A9 T+1) (h:=(by omega))) (an (congrArg not HP) (an e1 (an e2 (an q trivial))))))) (by kernel_rfl)
theorem XM (f:CE Z hs σ T D)(hD:J1 κ D):∃hs',CE Z hs' σ T []∧AN (S ns) (d+2) 21 [.obj 0] [] (scO σ::hs) .none (scO σ::hs'):=by
 have g:=f.ks
 cases hD with
 |no=>
  refine⟨hs,f,?_⟩
  exact AN.by [.v .ob (O.dict []),.a 2] (an g trivial) (by kernel_rfl)
 |yes=>
  refine⟨_,f.setk [],?_⟩
  exact AN.by [.v .ob (O.dict [(V.int 0,Bo κ)]),.a 2,.v .ob (O.dict [(V.int 0,Bo κ)]),.a 4,.v .ob (O.dict [(V.int 0,Bo κ)]),.a 2] (an g (an g (an g trivial))) (by kernel_rfl)
theorem Kq {k:Int}(hk:-1≤k):AN (S ns) (d+1) 22 [.obj 0,.int k] [] (scO σ::hs) .none (scO σ::hs):=by
 have q:decide (k< -1)=false:=decide_eq_false (Fv.mpr hk)
 have e:BC (S ns) (d+1) (wT (Bv (C9 22) 1)) (wB (Bv (C9 22) 1)) ⟨[("self",.obj 0),("column",.int k),("mark",.undef),("BlockEndToken",.cls 4)],scO σ::hs⟩ .next ⟨[("self",.obj 0),("column",.int k),("mark",.undef),("BlockEndToken",.cls 4)],scO σ::hs⟩:=by
  exact BC.by [.f] (an q trivial) (by kernel_rfl)
 exact AN.by [.a 1,.w (Fl.next) (St.mk [(A8 "self",V.obj 0),(A8 "column",V.int k),(A8 "mark",V.undef),(A8 "BlockEndToken",V.cls 4)] (scO σ::hs))] (an e trivial) (by kernel_rfl)
theorem XF (f:CE Z hs σ [] [])(ha:σ.ask=true):∃hs',CE Z hs' σ [] [(.int 0,Bo σ)]∧AN (S ns) (d+3) 20 [.obj 0] [] (scO σ::hs) .none (scO σ::hs'):=by
 have g:=f.tk
 have gk:=f.ks
 have e1:AN (S ns) (d+2) 21 [.obj 0] [] (scO σ::hs) .none (scO σ::hs):=by
  exact AN.by [.v .ob (O.dict []),.a 2] (an gk trivial) (by kernel_rfl)
 have q:decide ((-1:Int)=(σ.cl:Int))=false:=decide_eq_false (by omega)
 have f1:=f.ext (σ':=σ) ((B5.app hs (o:=.dead)).trans (B5.app _ (o:=.dead))) rfl rfl
 have gk2:((hs++[O.dead]++[O.inst 7 (Ka σ.tn σ.ix σ.ln σ.cl (mk σ))]).set (hs++[O.dead]).length O.dead)[σ.keys]? =some (.dict []):=by
  rw[EO];exact f1.ks
 refine⟨_,f1.setk [(.int 0,Bo σ)],?_⟩
 rw[←EO (hs++[O.dead]) (O.inst 7 (Ka σ.tn σ.ix σ.ln σ.cl (mk σ)))]
 exact AN.by [.a 2,.t,.c (V.none) (scO σ::hs),.v .ob (O.list []),.a 2,.c (mk σ) (scO σ::(hs++[O.dead])),.c (V.none) (scO σ::(hs++[O.dead]++[O.inst 7 [(A8 "token_number",V.int (↑(Sc.tn σ+0):Int)),(A8 "required",V.bool (decide (-1=(↑(Sc.cl σ):Int)))),(A8 "index",V.int (↑(Sc.ix σ):Int)),(A8 "line",V.int (↑(Sc.ln σ):Int)),(A8 "column",V.int (↑(Sc.cl σ):Int)),(A8 "mark",V.rcd 0 (Bt σ))]])),.v .ob (O.inst 7 [(A8 "token_number",V.int (↑(Sc.tn σ+0):Int)),(A8 "required",V.bool (decide (-1=(↑(Sc.cl σ):Int)))),(A8 "index",V.int (↑(Sc.ix σ):Int)),(A8 "line",V.int (↑(Sc.ln σ):Int)),(A8 "column",V.int (↑(Sc.cl σ):Int)),(A8 "mark",V.rcd 0 (Bt σ))]),.a 1,.v .ob (O.dict []),.a 2] (an ha (an e1 (an g (an (ED (ns:=ns) (σ:=σ) (d:=d) (hs:=hs)) (an (Xl (ns:=ns) (d:=d+1) (l:=hs++[O.dead]) (a0:=scO σ) (t:=(↑(Sc.tn σ+0):Int)) (ix:=(↑(Sc.ix σ):Int)) (ln:=(↑(Sc.ln σ):Int)) (cl:=(↑(Sc.cl σ):Int)) (r:=decide (-1=(↑(Sc.cl σ):Int))) (c1:=0) (f1:=Bt σ)) (an (ga (l:=hs++[O.dead]) (o:=O.inst 7 [(A8 "token_number",V.int (↑(Sc.tn σ+0):Int)),(A8 "required",V.bool (decide (-1=(↑(Sc.cl σ):Int)))),(A8 "index",V.int (↑(Sc.ix σ):Int)),(A8 "line",V.int (↑(Sc.ln σ):Int)),(A8 "column",V.int (↑(Sc.cl σ):Int)),(A8 "mark",V.rcd 0 (Bt σ))]) (r:=[])) (an gk2 trivial))))))) (by kernel_rfl)
end
theorem bC {n:Nat}(h:n=0):decide ((n:Int)=0)=true:=decide_eq_true (by rw[h];rfl)
theorem bD {n:Nat}(h:n≠0):decide ((n:Int)=0)=false:=decide_eq_false (fun e=>h (Int.ofNat.inj e))
section
variable {ns:List Int}{Z:List O}{d:Nat}{hs:List O}
noncomputable abbrev GY (v:V):List (Str×V):=[("self",.obj 0),("found",v)]
noncomputable def aW:Expr:=wT (Bv (C9 33) 2)
noncomputable def Vj:List Stmt:=wB (Bv (C9 33) 2)
noncomputable def Yk:Expr:=wT (Bv Vj 0)
noncomputable def Ys:List Stmt:=wB (Bv Vj 0)
theorem X9 {b:Bool}{x:Nat}{r:List Nat}(hx:x≠32):∀{ws:List Nat} {σ:Sc},(∀y∈ws,y=32)→Rd σ (ws++x::r)→BC (S ns) (d+3) Yk Ys ⟨GY (.bool b),scO σ::hs⟩ .next ⟨GY (.bool b),scO (AL ws.length σ)::hs⟩:=by
 intro ws
 induction ws with
 |nil=>
  intro σ hws h
  have h:Rd σ (x::r):=h
  rw[show AL (A9 (α:=Nat) []) σ=σ from rfl]
  exact BC.by [.c (Ai x) (scO σ::hs),.f] (an (Bi (ns:=ns) (σ:=σ) (d:=d+1) (hs:=hs) (r:=r) (c:=x) (h:=h)) (an (ag (c:=x) (h:=hx)) trivial)) (by kernel_rfl)
 |cons w ws ih=>
  intro σ hws h
  have hw:=hws w (.head _)
  subst hw
  have h:Rd σ (32::(ws++x::r)):=h
  have e:=ih (σ:=AL 1 σ) (fun y hy=>hws y (.tail _ hy)) h.next
  rw[←B9,BY 1] at e
  refine AA (Gd (x:=ws) ⟨x,r,rfl⟩) fun y e'=>AA e' fun u e'=>?_
  have f:=EW (ns:=ns) (d:=d) (hs:=hs) (h.as (congrArg (32::·) e'))
  refine BC.go (s1:=St.mk [(A8 "self",V.obj 0),(A8 "found",V.bool b)] (scO (AL 1 σ)::hs)) [.c (Ai 32) (scO σ::hs),.a 1,.c (V.none) (scO (AL 1 σ)::hs)] ?_ (an (Bi (ns:=ns) (σ:=σ) (d:=d+1) (hs:=hs) (r:=ws++x::r) (c:=32) (h:=h)) (an f trivial)) (by kernel_rfl)
  exact e
theorem M6 {σ:Sc}{x:Nat}{u:List Nat}(h32:x≠32)(h35:x≠35)(hbom:x≠65279)(hb:x∉BRK)(h:Rd σ (x::u)):AN (S ns) (d+4) 33 [.obj 0] [] (scO σ::hs) .none (scO σ::hs):=by
 have e1:=X9 (ns:=ns) (d:=d+1) (hs:=hs) (b:=false) (ws:=[]) h32 (fun zz h=>nomatch h) h
 have e1:BC (S ns) (d+4) Yk Ys ⟨GY (.bool false),scO σ::hs⟩ .next ⟨GY (.bool false),scO σ::hs⟩:=e1
 have e2:BC (S ns) (d+4) aW Vj ⟨GY (.bool true),scO σ::hs⟩ .next ⟨GY (.bool true),scO σ::hs⟩:=by
  exact BC.by [.a 1] trivial (by kernel_rfl)
 have e2:BC (S ns) (d+4) aW Vj ⟨GY (.bool false),scO σ::hs⟩ .next ⟨GY (.bool true),scO σ::hs⟩:=by
  refine BC.go (s1:=St.mk [(A8 "self",V.obj 0),(A8 "found",V.bool true)] (scO σ::hs)) [.a 1,.w (Fl.next) (St.mk (GY (V.bool false)) (scO σ::hs)),.c (Ai x) (scO σ::hs),.f,.c (V.str (A8 "")) (scO σ::hs),.a 3] ?_ (an e1 (an (Bi (ns:=ns) (σ:=σ) (d:=d+2) (hs:=hs) (r:=u) (c:=x) (h:=h)) (an (Xy (c:=x) (h:=h35)) (an (WO (ns:=ns) (σ:=σ) (d:=d+1) (hs:=hs) (r:=u) (c:=x) (h:=h) (hc:=hb)) trivial)))) (by kernel_rfl)
  exact e2
 by_cases q:σ.ix=0
 ·have q:=bC q
  exact AN.by [.t,.c (Ai x) (scO σ::hs),.f,.a 2,.w (Fl.next) (St.mk (GY (V.bool true)) (scO σ::hs))] (an q (an (Bi (ns:=ns) (σ:=σ) (d:=d+2) (hs:=hs) (r:=u) (c:=x) (h:=h)) (an (VX (c:=x) (h:=hbom)) (an e2 trivial)))) (by kernel_rfl)
 ·have q:=bD q
  exact AN.by [.f,.a 2,.w (Fl.next) (St.mk (GY (V.bool true)) (scO σ::hs))] (an q (an e2 trivial)) (by kernel_rfl)
end
inductive MV:List Nat→List Nat→List Nat→Prop
 |mk {x1 t1 x2 t2 r:List Nat}:E8 x1 t1 (x2++34::r)→Tl x2 t2 (34::r)→MV (x1++x2) (t1++t2) r
noncomputable def HH (x:List Nat)(σ:Sc):Sc:=AL (x.length+2) {σ with ask:=false}
noncomputable abbrev Id (x t:List Nat)(σ:Sc):V:=Jm ⟨t.toArray⟩ (mk σ) (mk (HH x σ)) (A8 "\"")
section
variable {ns:List Int}{Z:List O}{d:Nat}{σ:Sc}{hs:List O}{x t r:List Nat}
theorem WB (hx:MV x t r)(hr:∃a u,r=a::u)(h:Rd σ (34::(x++34::r))):
  ∃hs',B5 hs hs'∧AN (S ns) (d+6) 34 [.obj 0,.str "\""] [] (scO {σ with ask:=false}::hs) (Id x t σ) (scO (HH x σ)::hs'):=by
 obtain @⟨x1,t1,x2,t2,_,h1,h2⟩:=hx
 have e:=WC (ns:=ns) (d:=d) (hs:=hs) h1 h2 hr (σ:={σ with ask:=false}) ⟨by rw[←AB];exact h.at_,h.z⟩
 rw[show 1+x1.length+x2.length+1=(x1++x2).length+2 from by rw[AF];lia] at e
 exact e
theorem UM (hx:MV x t r)(hr:∃a u,r=a::u)(h:Rd σ (34::(x++34::r)))(f:CE Z hs σ [] [])(ha:σ.ask=true):
  ∃hs',CE Z hs' (HH x σ) [Id x t σ] [(.int 0,Bo σ)]∧AN (S ns) (d+8) 28 [.obj 0] [] (scO σ::hs) .none (scO (HH x σ)::hs'):=by
 refine AR (XF (ns:=ns) (d:=d+3) f ha) fun hs1 f1 e1=>?_
 refine AR (WB (ns:=ns) (d:=d) (hs:=hs1) hx hr h) fun hs2 x2 e2=>?_
 have f2:=f1.ext (σ':=HH x σ) x2 rfl rfl
 have g1:=f1.tk
 have g2:=f2.tk
 refine⟨_,f2.sett [Id x t σ],?_⟩
 have e3:AN (S ns) (d+7) 29 [.obj 0] [("style",.str "\"")] (scO σ::hs) .none (scO (HH x σ)::hs2.set (HH x σ).tk (.list [Id x t σ])):=by
  exact AN.by [.c (V.none) (scO σ::hs1),.v .ob (O.list []),.c (Id x t σ) (scO (HH x σ)::hs2),.v .ob (O.list []),.a 1] (an e1 (an g1 (an e2 (an g2 trivial)))) (by kernel_rfl)
 exact AN.by [.c (V.none) (scO (HH x σ)::Bb hs2 (Sc.tk (HH x σ)) (O.list [Id x t σ]))] (an e3 trivial) (by kernel_rfl)
noncomputable abbrev OX (σ:Sc):V:=.rcd 2 [("start_mark",mk σ),("end_mark",mk σ)]
structure Ko (Z hs:List O)(σ:Sc)(T:List V):Prop where
 tk:hs[σ.tk]? =some (.list T)
 dn:σ.dn=true
 kp:∀j,j<Z.length→hs[j]? =Z[j]?
 k1:Z.length≤σ.tk
theorem Zf {κ:Sc}{T:List V}{D:List (V×V)}(f:CE Z hs σ T D)(hD:J1 κ D)(hT:BF T.length=true):
  ∃σ' hs',Ko Z hs' σ' (T++[OX σ])∧AN (S ns) (d+3) 25 [.obj 0] [] (scO σ::hs) .none (scO σ'::hs'):=by
 refine AR (XM (ns:=ns) (d:=d) f hD) fun hs1 f1 e1=>?_
 have e0:=Kq (ns:=ns) (d:=d+1) (σ:=σ) (hs:=hs) (k:=-1) (Int.le_refl _)
 have f2:=f1.ext (σ':=σ) (((B5.app hs1 (o:=.dict [])).trans (B5.app _ (o:=.dead))).trans (B5.app _ (o:=.dead))) rfl rfl
 have g2:=f2.tk
 have g1:=(f1.ext (σ':=σ) ((B5.app hs1 (o:=.dict [])).trans (B5.app _ (o:=.dead))) rfl rfl).tk
 have g3:((hs1++[O.dict []]++[O.dead]++[O.inst 2 [("start_mark",mk σ),("end_mark",mk σ)]]).set (hs1++[O.dict []]++[O.dead]).length O.dead)[σ.tk]? =some (.list T):=by
  rw[EO];exact g2
 refine⟨{σ with ask:=false,keys:=hs1.length,dn:=true},_,⟨gs g2,rfl,(f2.sett _).kp,f.k1⟩,?_⟩
 rw[←EO (hs1++[O.dict []]++[O.dead]) (O.inst 2 [("start_mark",mk σ),("end_mark",mk σ)])]
 exact AN.by [.c (V.none) (scO σ::hs),.c (V.none) (scO σ::hs1),.c (mk (Sc.mk (Sc.B σ) (Sc.p σ) (Sc.ix σ) (Sc.ln σ) (Sc.cl σ) (Sc.dn σ) (Sc.tk σ) (Sc.tn σ) (Sc.ind σ) false (A9 hs1))) (scO (Sc.mk (Sc.B σ) (Sc.p σ) (Sc.ix σ) (Sc.ln σ) (Sc.cl σ) (Sc.dn σ) (Sc.tk σ) (Sc.tn σ) (Sc.ind σ) false (A9 hs1))::(hs1++[O.dict []]++[O.dead])),.a 1,.v .ob (O.list T),.c (V.none) (scO (Sc.mk (Sc.B σ) (Sc.p σ) (Sc.ix σ) (Sc.ln σ) (Sc.cl σ) (Sc.dn σ) (Sc.tk σ) (Sc.tn σ) (Sc.ind σ) false (A9 hs1))::(hs1++[O.dict []]++[O.dead]++[O.inst 2 [(A8 "start_mark",V.rcd 0 (Bt (Sc.mk (Sc.B σ) (Sc.p σ) (Sc.ix σ) (Sc.ln σ) (Sc.cl σ) (Sc.dn σ) (Sc.tk σ) (Sc.tn σ) (Sc.ind σ) false (A9 hs1)))),(A8 "end_mark",V.rcd 0 (Bt (Sc.mk (Sc.B σ) (Sc.p σ) (Sc.ix σ) (Sc.ln σ) (Sc.cl σ) (Sc.dn σ) (Sc.tk σ) (Sc.tn σ) (Sc.ind σ) false (A9 hs1))))]])),.v .ob (O.inst 2 [(A8 "start_mark",V.rcd 0 (Bt (Sc.mk (Sc.B σ) (Sc.p σ) (Sc.ix σ) (Sc.ln σ) (Sc.cl σ) (Sc.dn σ) (Sc.tk σ) (Sc.tn σ) (Sc.ind σ) false (A9 hs1)))),(A8 "end_mark",V.rcd 0 (Bt (Sc.mk (Sc.B σ) (Sc.p σ) (Sc.ix σ) (Sc.ln σ) (Sc.cl σ) (Sc.dn σ) (Sc.tk σ) (Sc.tn σ) (Sc.ind σ) false (A9 hs1))))]),.v .ob (O.list T),.t] (an e0 (an e1 (an (ED (ns:=ns) (σ:=Sc.mk (Sc.B σ) (Sc.p σ) (Sc.ix σ) (Sc.ln σ) (Sc.cl σ) (Sc.dn σ) (Sc.tk σ) (Sc.tn σ) (Sc.ind σ) false (A9 hs1)) (d:=d) (hs:=hs1++[O.dict []])) (an g1 (an (Xo (ns:=ns) (d:=d+1) (l:=hs1++[O.dict []]++[O.dead]) (a0:=scO (Sc.mk (Sc.B σ) (Sc.p σ) (Sc.ix σ) (Sc.ln σ) (Sc.cl σ) (Sc.dn σ) (Sc.tk σ) (Sc.tn σ) (Sc.ind σ) false (A9 hs1))) (c1:=0) (c2:=0) (f1:=Bt (Sc.mk (Sc.B σ) (Sc.p σ) (Sc.ix σ) (Sc.ln σ) (Sc.cl σ) (Sc.dn σ) (Sc.tk σ) (Sc.tn σ) (Sc.ind σ) false (A9 hs1))) (f2:=Bt (Sc.mk (Sc.B σ) (Sc.p σ) (Sc.ix σ) (Sc.ln σ) (Sc.cl σ) (Sc.dn σ) (Sc.tk σ) (Sc.tn σ) (Sc.ind σ) false (A9 hs1)))) (an (ga (l:=hs1++[O.dict []]++[O.dead]) (o:=O.inst 2 [(A8 "start_mark",V.rcd 0 (Bt (Sc.mk (Sc.B σ) (Sc.p σ) (Sc.ix σ) (Sc.ln σ) (Sc.cl σ) (Sc.dn σ) (Sc.tk σ) (Sc.tn σ) (Sc.ind σ) false (A9 hs1)))),(A8 "end_mark",V.rcd 0 (Bt (Sc.mk (Sc.B σ) (Sc.p σ) (Sc.ix σ) (Sc.ln σ) (Sc.cl σ) (Sc.dn σ) (Sc.tk σ) (Sc.tn σ) (Sc.ind σ) false (A9 hs1))))]) (r:=[])) (an g3 (an hT trivial)))))))) (by kernel_rfl)
end
section
variable {ns:List Int}{Z:List O}{d:Nat}{σ κ:Sc}{hs:List O}{x t r:List Nat}{T:List V}{D:List (V×V)}
theorem m1 (n:Nat):(-1:Int)≤(n:Int):=Gi (by decide) (Ck n)
theorem Y6 (hx:MV x t r)(hr:∃a u,r=a::u)(h:Rd σ (34::(x++34::r)))(f:CE Z hs σ [] [])(ha:σ.ask=true):
  ∃hs',CE Z hs' (HH x σ) [Id x t σ] [(.int 0,Bo σ)]∧AN (S ns) (d+9) 17 [.obj 0] [] (scO σ::hs) .none (scO (HH x σ)::hs'):=by
 have e1:=M6 (ns:=ns) (d:=d+4) (hs:=hs) (by decide) (by decide) (by decide) (by decide) h
 have e2:=Kw (ns:=ns) (d:=d+6) f
 have e3:=Kq (ns:=ns) (d:=d+7) (σ:=σ) (hs:=hs++[.list []]) (m1 σ.cl)
 have f1:=f.ext (σ':=σ) (B5.app hs (o:=.list [])) rfl rfl
 refine AR (UM (ns:=ns) (d:=d) hx hr h f1 ha) fun hs' f2 e5=>?_
 refine⟨hs',f2,?_⟩
 exact AN.by [.c (V.none) (scO σ::hs),.c (V.none) (scO σ::(hs++[O.list []])),.c (V.none) (scO σ::(hs++[O.list []])),.c (Ai 34) (scO σ::(hs++[O.list []])),.a 28,.c (V.none) (scO (HH x σ)::hs')] (an e1 (an e2 (an e3 (an (Bi (ns:=ns) (σ:=σ) (d:=d+7) (hs:=hs++[O.list []]) (r:=x++34::r) (c:=34) (h:=h)) (an e5 trivial))))) (by kernel_rfl)
end
noncomputable def Vf:Expr:=wT (Bv (C9 15) 0)
noncomputable def Vk:List Stmt:=wB (Bv (C9 15) 0)
noncomputable abbrev GZ:List (Str×V):=[("self",.obj 0)]
noncomputable abbrev Dv (σ:Sc):Sc:={σ with tn:=σ.tn+1}
noncomputable abbrev MY (ns:List Int)(d:Nat)(σ:Sc)(hs:List O)(σ':Sc)(hs':List O):Prop:=BC (S ns) (d+1) Vf Vk ⟨GZ,scO σ::hs⟩ .next ⟨GZ,scO σ'::hs'⟩
section
variable {ns:List Int}{Z:List O}{d:Nat}{σ σ' κ:Sc}{hs hs':List O}{x t r:List Nat}{T:List V}{D:List (V×V)}{v:V}
theorem JS (e:MY ns d σ hs σ' hs')(g:hs'[σ'.tk]? =some (.list (v::T)))(hT:BF (v::T).length=true):AN (S ns) (d+1) 15 [.obj 0] [] (scO σ::hs) v (scO (Dv σ')::hs'.set σ'.tk (.list T)):=by
 have e:BC (S ns) (d+1) Vf Vk ⟨GZ,scO σ::hs⟩ .next ⟨GZ,scO σ'::hs'⟩:=e
 exact AN.by [.w (Fl.next) (St.mk GZ (scO σ'::hs')),.v .ob (O.list (v::T)),.t,.t,.v .ob (O.list (v::T)),.v .ob (O.list (v::T)),.t,.a 1] (an e (an g (an hT (an HP (an g (an g (an hT trivial))))))) (by kernel_rfl)
theorem U8 (e:MY ns d σ hs σ' hs')(g:hs'[σ'.tk]? =some (.list [])):AN (S ns) (d+1) 15 [.obj 0] [] (scO σ::hs) .none (scO σ'::hs'):=by
 have e:BC (S ns) (d+1) Vf Vk ⟨GZ,scO σ::hs⟩ .next ⟨GZ,scO σ'::hs'⟩:=e
 exact AN.by [.w (Fl.next) (St.mk GZ (scO σ'::hs')),.v .ob (O.list []),.a 2] (an e (an g trivial)) (by kernel_rfl)
theorem PP (e:AN (S ns) (d+1) 16 [.obj 0] [] (scO σ::hs) .none (scO σ::hs')):MY ns (d+1) σ hs σ hs':=by
 exact BC.by [.c (V.none) (scO σ::hs'),.a 1] (an e trivial) (by kernel_rfl)
theorem Jw (hd:σ.dn=true):MY ns (d+1) σ hs σ hs:=by
 have e:=Tq (ns:=ns) (d:=d) (hs:=hs) hd
 exact BC.by [.c (V.bool false) (scO σ::hs),.a 1] (an e trivial) (by kernel_rfl)
theorem Jv {σ1:Sc}{hs1 hs2:List O}(e:AN (S ns) (d+1) 16 [.obj 0] [] (scO σ::hs) (.bool true) (scO σ::hs1))(e2:AN (S ns) (d+1) 17 [.obj 0] [] (scO σ::hs1) .none (scO σ1::hs2))(e3:MY ns (d+1) σ1 hs2 σ' hs'):MY ns (d+1) σ hs σ' hs':=by
 refine BC.go (s1:=St.mk [(A8 "self",V.obj 0)] (scO σ1::hs2)) [.c (V.bool true) (scO σ::hs1),.a 1,.c (V.none) (scO σ1::hs2)] ?_ (an e (an e2 trivial)) (by kernel_rfl)
 exact e3
theorem L6 (v:V):BF [v].length=true:=At (by show 1≤lim;decide)
theorem Ww (v w:V):BF [v,w].length=true:=At (by show 2≤lim;decide)
theorem CE.take (f:CE Z hs σ (v::T) D):CE Z (hs.set σ.tk (.list T)) (Dv σ) T D:=⟨gs f.tk,(B7 f.ne).trans f.ks,f.ne,f.nf.set rfl,(f.sett T).kp,f.k1,f.k2⟩
theorem Ko.take (f:Ko Z hs σ (v::T)):Ko Z (hs.set σ.tk (.list T)) (Dv σ) T:=⟨gs f.tk,f.dn,fun j hj=>(B7 (CT (Am hj f.k1))).trans (f.kp j hj),f.k1⟩
theorem Yf (h:Rd σ (34::(x++34::r))):Rd (HH x σ) r:=by
 have e:34::(x++34::r)=(34::(x++[34]))++r:=by rw[B0,AB];rfl
 have h1:=(h.as e).skip
 rw[AQ,AF] at h1
 exact⟨h1.at_,h1.z⟩
theorem Y3 (f:CE Z hs σ [v] [])(hd:σ.dn=false):∃hs',CE Z hs' (Dv σ) [] []∧AN (S ns) (d+4) 15 [.obj 0] [] (scO σ::hs) v (scO (Dv σ)::hs'):=by
 have f1:=f.ext (σ':=σ) (B5.app hs (o:=.list [])) rfl rfl
 exact⟨_,f1.take,JS (PP (ZP (d:=d) f (by show 1≤lim;decide) hd)) f1.tk (L6 v)⟩
theorem getD (f:Ko Z hs σ (v::T))(hT:BF (v::T).length=true):AN (S ns) (d+2) 15 [.obj 0] [] (scO σ::hs) v (scO (Dv σ)::hs.set σ.tk (.list T)):=JS (Jw f.dn) f.tk hT
theorem Y0 (f:Ko Z hs σ []):AN (S ns) (d+2) 15 [.obj 0] [] (scO σ::hs) .none (scO σ::hs):=U8 (Jw f.dn) f.tk
end
noncomputable def JZ (c:Nat):Prop:=c∈[9,10,13,133]∨(32≤c∧c≤126)∨(160≤c∧c≤55295)∨(57344≤c∧c≤65533)∨(65536≤c∧c≤1114111)
theorem MA (a b:Nat):([a]<[b])↔a<b:=by
 constructor
 ·intro h
  rcases List.cons_lt_cons_iff.mp h with h|⟨_,h⟩
  ·exact h
  ·exact absurd h (List.not_lt_nil _)
 ·exact fun h=>List.cons_lt_cons_iff.mpr (.inl h)
theorem OB {s:Str}{k c:Nat}(e:s.cps.toList=[k])(h:k≤c):decide ((#[c]:Array Nat).toList<s.cps.toList)=false:=decide_eq_false (by rw[e];exact fun z=>Fs.mpr h ((MA c k).mp z))
theorem QP {s:Str}{k c:Nat}(e:s.cps.toList=[k])(h:c≤k):decide (s.cps.toList<(#[c]:Array Nat).toList)=false:=decide_eq_false (by rw[e];exact fun z=>Fs.mpr h ((MA k c).mp z))
theorem U4 {s:Str}{k c:Nat}(e:s.cps.toList=[k])(h:k<c):decide (s.cps.toList<(#[c]:Array Nat).toList)=true:=decide_eq_true (by rw[e];exact(MA k c).mpr h)
theorem aA:(A8 " ").cps.toList=[32]:=by decide+kernel
theorem XI:(A8 "~").cps.toList=[126]:=by decide+kernel
theorem ai:(A8 "\u00a0").cps.toList=[160]:=by decide+kernel
theorem RR:(A8 "\ud7ff").cps.toList=[55295]:=by decide+kernel
theorem XH:(A8 "\ue000").cps.toList=[57344]:=by decide+kernel
theorem RQ:(A8 "\ufffd").cps.toList=[65533]:=by decide+kernel
theorem XG:(A8 "𐀀").cps.toList=[65536]:=by decide+kernel
theorem ah:(⟨#[1114111]⟩:Str).cps.toList=[1114111]:=rfl
section
variable {ns:List Int}{d:Nat}{h:List O}
theorem ao {c:Nat}(hc:JZ c):AN (S ns) (d+1) 2 [Ai c] [] h (.bool true) h:=by
 by_cases q1:c∈[9,10,13,133]
 ·suffices e:AN (S ns) (d+1) 2 [Ai c] [] h (.bool (BL (A8 "\t\n\u000d\u0085") ⟨#[c]⟩)) h by rwa [Uz q1] at e
  exact AN.by [.t] (an (Uz (c:=c) (h:=q1)) trivial) (by kernel_rfl)
 ·refine hc.elim (fun h=>absurd h q1) fun hc=>hc.elim (fun hc=>?_) fun hc=>?_
  ·have a1:=OB aA hc.1
   have a2:=QP XI hc.2
   suffices e:AN (S ns) (d+1) 2 [Ai c] [] h (.bool (!decide ((A8 "~").cps.toList<(#[c]:Array Nat).toList))) h by rwa [a2] at e
   exact AN.by [.f,.t,.t] (an (NK (c:=c) (h:=q1)) (an (congrArg not a1) (an (congrArg not a2) trivial))) (by kernel_rfl)
  ·have g:160≤c:=hc.elim (fun h=>h.1) fun hc=>hc.elim (fun h=>AM (by decide) h.1) fun h=>AM (by decide) h.1
   have a1:=OB aA (AM (by decide) g)
   have a2:=U4 XI (Am (by decide) g)
   have a3:=OB ai g
   refine hc.elim (fun hc=>?_) fun hc=>?_
   ·have a4:=QP RR hc.2
    suffices e:AN (S ns) (d+1) 2 [Ai c] [] h (.bool (!decide ((A8 "\ud7ff").cps.toList<(#[c]:Array Nat).toList))) h by rwa [a4] at e
    exact AN.by [.f,.t,.f,.t,.t] (an (NK (c:=c) (h:=q1)) (an (congrArg not a1) (an (congrArg not a2) (an (congrArg not a3) (an (congrArg not a4) trivial))))) (by kernel_rfl)
   ·have g:57344≤c:=hc.elim (fun h=>h.1) fun h=>AM (by decide) h.1
    have a4:=U4 RR (Am (by decide) g)
    have a5:=OB XH g
    refine hc.elim (fun hc=>?_) fun hc=>?_
    ·have a6:=QP RQ hc.2
     suffices e:AN (S ns) (d+1) 2 [Ai c] [] h (.bool (!decide ((A8 "\ufffd").cps.toList<(#[c]:Array Nat).toList))) h by rwa [a6] at e
     exact AN.by [.f,.t,.f,.t,.f,.t,.t] (an (NK (c:=c) (h:=q1)) (an (congrArg not a1) (an (congrArg not a2) (an (congrArg not a3) (an (congrArg not a4) (an (congrArg not a5) (an (congrArg not a6) trivial))))))) (by kernel_rfl)
    ·have a6:=U4 RQ (Am (by decide) hc.1)
     have a7:=OB XG hc.1
     have a8:=QP ah hc.2
     suffices e:AN (S ns) (d+1) 2 [Ai c] [] h (.bool (!decide ((⟨#[1114111]⟩:Str).cps.toList<(#[c]:Array Nat).toList))) h by rwa [a8] at e
     exact AN.by [.f,.t,.f,.t,.f,.t,.f,.t] (an (NK (c:=c) (h:=q1)) (an (congrArg not a1) (an (congrArg not a2) (an (congrArg not a3) (an (congrArg not a4) (an (congrArg not a5) (an (congrArg not a6) (an (congrArg not a7) trivial)))))))) (by kernel_rfl)
end
noncomputable abbrev OA (B:List Nat)(a b:V):List (Str×V):=[("self",.obj 0),("data",.str ⟨B.toArray⟩),("start",a),("character",b),("position",.undef),("enumerate",.ty "enumerate"),("_is_printable",.fn 2),("len",.bi "len")]
noncomputable def F8:Expr:=wT (Bv (C9 8) 0)
noncomputable def G8:List Stmt:=wB (Bv (C9 8) 0)
section
variable {ns:List Int}{d:Nat}{h:List O}
theorem av {B:List Nat}{k c:Nat}(e:B[k]? =some c):some ((((⟨B.toArray⟩:Str).cps[k]?).map Ai).map (Fw true k))=some (some (.tup [.int (k:Int),Ai c])):=by
 rw[show(⟨B.toArray⟩:Str).cps[k]? =some c from Qy e];rfl
theorem aw {B:List Nat}:some ((((⟨B.toArray⟩:Str).cps[B.length]?).map Ai).map (Fw true B.length))=some none:=by
 rw[show(⟨B.toArray⟩:Str).cps[B.length]? =none by rw[List.getElem?_toArray];exact Cc (Ak _)];rfl
theorem ZR:∀{C A B:List Nat},A++C=B→(∀c∈C,JZ c)→∀{a b:V},Az a=true→Az b=true→
  ∃a' b',BK (S ns) (d+2) F8 (.str ⟨B.toArray⟩ true) A.length G8 ⟨OA B a b,h⟩ .next ⟨OA B a' b',h⟩:=by
 intro C
 induction C with
 |nil=>
  intro A B e hB a b ha hb
  rw[AK] at e
  subst e
  refine⟨a,b,?_⟩
  have q:=aw (B:=A)
  exact BK.by [.v .oval (none)] (an q trivial) (by kernel_rfl)
 |cons c C ih=>
  intro A B e hB a b ha hb
  have hg:B[A.length]? =some c:=by rw[←e,C2 (Ak _),Ep];rfl
  have q:=av hg
  have p:=ao (ns:=ns) (d:=d) (h:=h) (hB c (.head _))
  refine JU (ih (A:=A++[c]) (B:=B) (by rw[AB];exact e) (fun y hy=>hB y (.tail _ hy)) (a:=.int (A.length:Int)) (b:=Ai c) rfl rfl) fun a' b' e2=>?_
  rw[AF] at e2
  refine⟨a',b',?_⟩
  refine BK.go (s1:=St.mk [(A8 "self",V.obj 0),(A8 "data",V.str (Str.mk (AE B))),(A8 "start",V.int (↑(A9 A):Int)),(A8 "character",V.str (Str.mk #[c])),(A8 "position",V.undef),(A8 "enumerate",V.ty "enumerate"),(A8 "_is_printable",V.fn 2),(A8 "len",V.bi "len")] h) [.v .oval (some (V.tup [V.int (↑(A9 A):Int),Ai c])),.t,.t,.c (V.bool true) (h),.a 1] ?_ (an q (an (B8 (u:=a) (v:=V.int (↑(A9 A):Int)) (h:=ha) (h2:=(by rfl))) (an (B8 (u:=b) (v:=Ai c) (h:=hb) (h2:=(by rfl))) (an p trivial)))) (by kernel_rfl)
  exact e2
theorem YW {B:List Nat}(hB:∀c∈B,JZ c):AN (S ns) (d+3) 8 [.obj 0,.str ⟨B.toArray⟩] [] h .none h:=by
 refine JU (ZR (ns:=ns) (d:=d+1) (h:=h) (A:=[]) rfl hB (a:=.undef) (b:=.undef) rfl rfl) fun a' b' e=>?_
 have e:BK (S ns) (d+3) F8 (.str ⟨B.toArray⟩ true) 0 G8 ⟨OA B .undef .undef,h⟩ .next ⟨OA B a' b',h⟩:=e
 exact AN.by [.w (Fl.next) (St.mk (OA B a' b') h)] (an e trivial) (by kernel_rfl)
end
noncomputable def JI (B:Str):List (Str×V):=[("name",.str "<unicode string>"),("stream",.none),("stream_pointer",.int 0),("eof",.bool true),("buffer",.str B),("pointer",.int 0),("raw_buffer",.none),("raw_decode",.none),("encoding",.none),("index",.int 0),("line",.int 0),("column",.int 0)]
theorem bN (L:List Nat):(⟨L.toArray⟩:Str)++A8 "\u0000"=⟨(L++[0]).toArray⟩:=by
 rw[FA]
 show(L.toArray++(A8 "\u0000").cps).toList=_
 have:(A8 "\u0000").cps= #[0]:=by rfl
 rw[this]
 simp
section
variable {ns:List Int}{Z:List O}{d:Nat}{hs:List O}{L:List Nat}
theorem ZC (hL:∀c∈L,JZ c)(hz:L.length+1≤lim):AN (S ns) (d+4) 3 [.obj 0,.str ⟨L.toArray⟩] [] (.inst 8 []::hs) .none (.inst 8 (JI ⟨(L++[0]).toArray⟩)::hs):=by
 rw[←bN]
 have e1:=fun fs:List (Str×V)=>YW (ns:=ns) (d:=d) (h:=.inst 8 fs::hs) hL
 have k:=At hz
 exact AN.by [.a 1,.c (V.none) (O.inst 8 [(A8 "name",V.str (A8 "<unicode string>")),(A8 "stream",V.none),(A8 "stream_pointer",V.int 0),(A8 "eof",V.bool true),(A8 "buffer",V.str (A8 "")),(A8 "pointer",V.int 0),(A8 "raw_buffer",V.none),(A8 "raw_decode",V.none),(A8 "encoding",V.none),(A8 "index",V.int 0),(A8 "line",V.int 0),(A8 "column",V.int 0)]::hs),.t] (an (e1 (fs:=[(A8 "name",V.str (A8 "<unicode string>")),(A8 "stream",V.none),(A8 "stream_pointer",V.int 0),(A8 "eof",V.bool true),(A8 "buffer",V.str (A8 "")),(A8 "pointer",V.int 0),(A8 "raw_buffer",V.none),(A8 "raw_decode",V.none),(A8 "encoding",V.none),(A8 "index",V.int 0),(A8 "line",V.int 0),(A8 "column",V.int 0)])) (an (At (n:=A9 L+Array.size (Str.cps (A8 "\x00"))) (h:=(by assumption))) trivial)) (by kernel_rfl)
noncomputable def Et (B:List Nat)(t i k:Nat):Sc:={B:=B,p:=0,ix:=0,ln:=0,cl:=0,dn:=false,tk:=t,tn:=0,ind:=i,ask:=true,keys:=k}
noncomputable abbrev H7 (B:List Nat):Sc:=Et B 0 0 0
noncomputable abbrev GV (B:List Nat):V:=.rcd 1 [("start_mark",mk (H7 B)),("end_mark",mk (H7 B)),("encoding",.none)]
noncomputable abbrev xF (k:Nat):List (Str×V):=[("done",.bool false),("flow_level",.int 0),("tokens",.obj k)]
theorem bH {B:List Nat}{k:Nat}:AN (S ns) (d+2) 7 [.obj 0] [] (.inst 8 (JI ⟨B.toArray⟩++xF k)::hs) (mk (H7 B)) (.inst 8 (JI ⟨B.toArray⟩++xF k)::(hs++[.dead])):=by
 rw[←EO hs (.inst 0 (Bt (H7 B)))]
 exact AN.by [.a 1,.c (V.none) (O.inst 8 [(A8 "name",V.str (A8 "<unicode string>")),(A8 "stream",V.none),(A8 "stream_pointer",V.int 0),(A8 "eof",V.bool true),(A8 "buffer",V.str (Str.mk (AE B))),(A8 "pointer",V.int 0),(A8 "raw_buffer",V.none),(A8 "raw_decode",V.none),(A8 "encoding",V.none),(A8 "index",V.int 0),(A8 "line",V.int 0),(A8 "column",V.int 0),(A8 "done",V.bool false),(A8 "flow_level",V.int 0),(A8 "tokens",V.obj k)]::(hs++[O.inst 0 (Jt (A8 "<unicode string>") 0 0 0 (Str.mk (AE B)) 0)])),.v .ob (O.inst 0 [(A8 "name",V.str (A8 "<unicode string>")),(A8 "index",V.int 0),(A8 "line",V.int 0),(A8 "column",V.int 0),(A8 "buffer",V.str (Str.mk (AE B))),(A8 "pointer",V.int 0)])] (an (VK (ns:=ns) (d:=d) (l:=hs) (a0:=O.inst 8 [(A8 "name",V.str (A8 "<unicode string>")),(A8 "stream",V.none),(A8 "stream_pointer",V.int 0),(A8 "eof",V.bool true),(A8 "buffer",V.str (Str.mk (AE B))),(A8 "pointer",V.int 0),(A8 "raw_buffer",V.none),(A8 "raw_decode",V.none),(A8 "encoding",V.none),(A8 "index",V.int 0),(A8 "line",V.int 0),(A8 "column",V.int 0),(A8 "done",V.bool false),(A8 "flow_level",V.int 0),(A8 "tokens",V.obj k)]) (nm:=A8 "<unicode string>") (bf:=Str.mk (AE B)) (a:=0) (b:=0) (c:=0) (p:=0)) (an (ga (l:=hs) (o:=O.inst 0 [(A8 "name",V.str (A8 "<unicode string>")),(A8 "index",V.int 0),(A8 "line",V.int 0),(A8 "column",V.int 0),(A8 "buffer",V.str (Str.mk (AE B))),(A8 "pointer",V.int 0)]) (r:=[])) trivial)) (by kernel_rfl)
theorem Vs {B:List Nat}:AN (S ns) (d+3) 24 [.obj 0] [] (.inst 8 (JI ⟨B.toArray⟩++xF (hs.length+1))::(hs++[.list []])) .none (.inst 8 (JI ⟨B.toArray⟩++xF (hs.length+1))::(hs++[O.list []]++[O.dead]++[O.dead]).set hs.length (.list [GV B])):=by
 have e1:=bH (ns:=ns) (d:=d) (B:=B) (hs:=hs++[.list []]) (k:=hs.length+1)
 have g1:(hs++[O.list []]++[O.dead])[hs.length]? =some (.list []):=by rw[AB];exact ga
 have g2:((hs++[O.list []]++[O.dead]++[O.inst 1 [("start_mark",mk (H7 B)),("end_mark",mk (H7 B)),("encoding",.none)]]).set (hs++[O.list []]++[O.dead]).length O.dead)[hs.length]? =some (.list []):=by
  rw[EO,AB,AB];exact ga
 rw[←EO (hs++[O.list []]++[O.dead]) (O.inst 1 [("start_mark",mk (H7 B)),("end_mark",mk (H7 B)),("encoding",.none)])]
 exact AN.by [.c (mk (H7 B)) (O.inst 8 (JI (Str.mk (AE B))++xF (A9 hs+1))::(hs++[O.list []]++[O.dead])),.a 1,.v .ob (O.list []),.c (V.none) (O.inst 8 [(A8 "name",V.str (A8 "<unicode string>")),(A8 "stream",V.none),(A8 "stream_pointer",V.int 0),(A8 "eof",V.bool true),(A8 "buffer",V.str (Str.mk (AE B))),(A8 "pointer",V.int 0),(A8 "raw_buffer",V.none),(A8 "raw_decode",V.none),(A8 "encoding",V.none),(A8 "index",V.int 0),(A8 "line",V.int 0),(A8 "column",V.int 0),(A8 "done",V.bool false),(A8 "flow_level",V.int 0),(A8 "tokens",V.obj (A9 hs+1))]::(hs++[O.list []]++[O.dead]++[O.inst 1 [(A8 "start_mark",V.rcd 0 (Bt (H7 B))),(A8 "end_mark",V.rcd 0 (Bt (H7 B))),(A8 "encoding",V.none)]])),.v .ob (O.inst 1 [(A8 "start_mark",V.rcd 0 (Bt (H7 B))),(A8 "end_mark",V.rcd 0 (Bt (H7 B))),(A8 "encoding",V.none)]),.v .ob (O.list []),.a 1] (an e1 (an g1 (an (Xn (ns:=ns) (d:=d+1) (l:=hs++[O.list []]++[O.dead]) (a0:=O.inst 8 [(A8 "name",V.str (A8 "<unicode string>")),(A8 "stream",V.none),(A8 "stream_pointer",V.int 0),(A8 "eof",V.bool true),(A8 "buffer",V.str (Str.mk (AE B))),(A8 "pointer",V.int 0),(A8 "raw_buffer",V.none),(A8 "raw_decode",V.none),(A8 "encoding",V.none),(A8 "index",V.int 0),(A8 "line",V.int 0),(A8 "column",V.int 0),(A8 "done",V.bool false),(A8 "flow_level",V.int 0),(A8 "tokens",V.obj (A9 hs+1))]) (c1:=0) (c2:=0) (f1:=Bt (H7 B)) (f2:=Bt (H7 B))) (an (ga (l:=hs++[O.list []]++[O.dead]) (o:=O.inst 1 [(A8 "start_mark",V.rcd 0 (Bt (H7 B))),(A8 "end_mark",V.rcd 0 (Bt (H7 B))),(A8 "encoding",V.none)]) (r:=[])) (an g2 trivial))))) (by kernel_rfl)
noncomputable def JR (hs:List O)(B:List Nat):List O:=(hs++[O.list []]++[O.dead]++[O.dead]).set hs.length (.list [GV B])
theorem Xk (hL:∀c∈L,JZ c)(hz:L.length+1≤lim):AN (S ns) (d+5) 14 [.obj 0,.str ⟨L.toArray⟩] [] (.inst 8 []::hs) .none (scO (Et (L++[0]) hs.length (JR hs (L++[0])).length (JR hs (L++[0])++[O.list []]).length)::(JR hs (L++[0])++[O.list []]++[O.dict []])):=by
 have e1:=ZC (ns:=ns) (d:=d) (hs:=hs) hL hz
 have e2:=Vs (ns:=ns) (d:=d+1) (hs:=hs) (B:=L++[0])
 exact AN.by [.c (V.none) (O.inst 8 (JI (Str.mk (AE (L++[0]))))::hs),.c (V.none) (O.inst 8 (JI (Str.mk (AE (L++[0])))++xF (A9 hs+1))::Bb (hs++[O.list []]++[O.dead]++[O.dead]) (A9 hs) (O.list [GV (L++[0])]))] (an e1 (an e2 trivial)) (by kernel_rfl)
theorem Zc {B:List Nat}(hn:DY hs):CE hs (JR hs B++[O.list []]++[O.dict []]) (Et B hs.length (JR hs B).length (JR hs B++[O.list []]).length) [GV B] []:=by
 have g2:(hs++[O.list []]++[O.dead]++[O.dead])[hs.length]? =some (.list []):=by
  rw[AB,AB];exact ga
 have g3:(JR hs B)[hs.length]? =some (.list [GV B]):=gs g2
 have g4:(JR hs B++[O.list []]++[O.dict []])[hs.length]? =some (.list [GV B]):=by rw[AB];exact gl g3
 have x:B5 hs (JR hs B++[O.list []]++[O.dict []]):=(((((B5.app hs).trans (B5.app _)).trans (B5.app _)).up (Ak _)).trans (B5.app _)).trans (B5.app _)
 have y:B5 hs (JR hs B++[O.list []]):=((((B5.app hs).trans (B5.app _)).trans (B5.app _)).up (Ak _)).trans (B5.app _)
 refine⟨g4,ga,fun e=>?_,(((((hn.app (x:=[O.list []]) rfl).app (x:=[O.dead]) rfl).app (x:=[O.dead]) rfl).set rfl).app (x:=[O.list []]) rfl).app (x:=[O.dict []]) rfl,x.2.1,Ak _,y.1⟩
 have e:hs.length=(JR hs B++[O.list []]).length:=e
 have l:=(AI.mp g3).1
 rw[AF] at e
 exact absurd e (As (Nat.lt_add_right _ l))
end
inductive EU:List Nat→List Nat→Prop
 |first {x r:List Nat}:FI x r→EU x r
 |later {x1 t1 x2 r:List Nat}:E8 x1 t1 (x2++r)→GB x2 r→EU (x1++x2) r
section
variable {ns:List Int}{Z:List O}{d:Nat}{σ:Sc}{hs:List O}{x r:List Nat}
theorem Tc (hn:FI x r)(h:Rd σ (34::(x++r))):
  ∃v h',Hg v (mk σ) (mk (AL (1+x.length) σ))∧D2 (S ns) (d+7) 34 [.obj 0,.str "\""] [] (scO σ::hs) v h':=by
 refine AA (Gd (x:=x) hn.rest) fun y e=>AA e fun w e=>?_
 have h0:Rd σ (34::y::w):=h.as (congrArg (34::·) e)
 have ef:=EW (ns:=ns) (d:=d+4) (hs:=(hs++[.list []])++[.dead]) h0
 have h1:=h.next
 refine AA (L8 (ns:=ns) (d:=d) (hs:=(hs++[.list []])++[.dead]) (cc:=0) (ff:=Bt σ) hn h1) fun v e=>AA e fun h2 e=>AA e.1 fun ct hv=>AA hv fun p hv=>?_
 subst hv
 have e1:=e.2
 rw[←B9] at e1
 have hcl:((hs++[O.list []])++[O.dead])[hs.length]? =some (.list []):=by rw[AB];exact ga
 refine⟨_,h2,⟨ct,p,rfl⟩,?_⟩
 exact D2.by [.a 3,.c (mk σ) (scO σ::(hs++[O.list []]++[O.dead])),.a 1,.c (Ai 34) (scO σ::(hs++[O.list []]++[O.dead])),.a 1,.c (V.none) (scO (AL 1 σ)::(hs++[O.list []]++[O.dead])),.v .ob (O.list []),.x (V.rcd 9 (Cq ct (V.rcd 0 (Bt σ)) p (mk (AL (1+A9 x) σ)))) (h2)] (an (ED (ns:=ns) (σ:=σ) (d:=d+4) (hs:=hs++[O.list []])) (an (Bi (ns:=ns) (σ:=σ) (d:=d+5) (hs:=hs++[O.list []]++[O.dead]) (r:=x++r) (c:=34) (h:=h)) (an ef (an hcl (an e1 trivial))))) (by kernel_rfl)
theorem Tb {x1 t1 x2:List Nat}(hn:E8 x1 t1 (x2++r))(ht:GB x2 r)(h:Rd σ (34::(x1++(x2++r)))):
  ∃v h',Hg v (mk σ) (mk (AL (1+x1.length+x2.length) σ))∧D2 (S ns) (d+7) 34 [.obj 0,.str "\""] [] (scO σ::hs) v h':=by
 refine AA (Gd (x:=x1) hn.rest) fun y e=>AA e fun w e=>?_
 have h0:Rd σ (34::y::w):=h.as (congrArg (34::·) e)
 have ef:=EW (ns:=ns) (d:=d+4) (hs:=(hs++[.list []])++[.dead]) h0
 have h1:=h.next
 refine HD (HZ (ns:=ns) (d:=d+1) (hs:=(hs++[.list []])++[.dead]) (cc:=0) (ff:=Bt σ) hn h1) fun ys1 hs1 hy1 hn1 cm1 e1=>?_
 have hl1:=h1.len
 have hf0:CZ [] (x1++(x2++r)):=by unfold CZ;rw[BR,CS];exact hl1
 have s1:=hf0.ext hn1
 have hf1:=hf0.app hn1
 rw[←B9] at e1
 have h2:=h1.skip
 rw[←B9] at h2
 have g1:=cm1.lst
 have hcl:((hs++[O.list []])++[O.dead])[hs.length]? =some (.list []):=by rw[AB];exact ga
 have hc1:hs1[hs.length]? =some (.list []):=cm1.ext.get hcl
 refine AA (WN (ns:=ns) (d:=d) (c:=hs.length) (ff:=Bt σ) ht (hs:=hs1.set hs.length (.list (ys1.map AV))) (gs hc1) hf1 h2) fun v e=>AA e fun s' e=>AA e.1 fun ct hv=>AA hv fun p hv=>?_
 subst hv
 have e2:=e.2
 rw[←B9] at e2
 refine⟨_,s'.heap,⟨ct,p,rfl⟩,?_⟩
 exact D2.by [.a 3,.c (mk σ) (scO σ::(hs++[O.list []]++[O.dead])),.a 1,.c (Ai 34) (scO σ::(hs++[O.list []]++[O.dead])),.a 1,.c (V.none) (scO (AL 1 σ)::(hs++[O.list []]++[O.dead])),.v .ob (O.list []),.c (V.obj (A9 (hs++[O.list []]++[O.dead])+1)) (scO (AL (1+A9 x1) σ)::hs1),.v .ob (O.list []),.t,.v .ob (O.list (AC AV ys1)),.t,.y (V.rcd 9 (Cq ct (V.rcd 0 (Bt σ)) p (mk (AL (1+A9 x1+A9 x2) σ)))) (s')] (an (ED (ns:=ns) (σ:=σ) (d:=d+4) (hs:=hs++[O.list []])) (an (Bi (ns:=ns) (σ:=σ) (d:=d+5) (hs:=hs++[O.list []]++[O.dead]) (r:=x1++(x2++r)) (c:=34) (h:=h)) (an ef (an hcl (an e1 (an hc1 (an (PK (h:=hs) (a:=O.list []) (b:=O.dead)) (an g1 (an s1 (an e2 trivial)))))))))) (by kernel_rfl)
theorem WA (hx:EU x r)(h:Rd σ (34::(x++r))):
  ∃v h',Hg v (mk σ) (mk (AL (x.length+1) σ))∧D2 (S ns) (d+7) 34 [.obj 0,.str "\""] [] (scO σ::hs) v h':=by
 cases hx with
 |first hn=>rw[BY];exact Tc hn h
 |@later x1 t1 x2 r hn ht=>
  rw[show(x1++x2).length+1=1+x1.length+x2.length from by rw[AF];lia]
  exact Tb hn ht (h.as (by rw[AB]))
theorem ON (hx:EU x r)(h:Rd σ (34::(x++r)))(f:CE Z hs σ [] [])(ha:σ.ask=true)(hd:σ.dn=false):
  ∃v h',Hg v (mk {σ with ask:=false}) (mk (AL (x.length+1) {σ with ask:=false}))∧D2 (S ns) (d+11) 15 [.obj 0] [] (scO σ::hs) v h':=by
 have e0:=M9 (ns:=ns) (d:=d+9) f hd
 have e1:=M6 (ns:=ns) (d:=d+5) (hs:=hs) (by decide) (by decide) (by decide) (by decide) h
 have e2:=Kw (ns:=ns) (d:=d+7) f
 have e3:=Kq (ns:=ns) (d:=d+8) (σ:=σ) (hs:=hs++[.list []]) (m1 σ.cl)
 have f1:=f.ext (σ':=σ) (B5.app hs (o:=.list [])) rfl rfl
 refine AR (XF (ns:=ns) (d:=d+4) f1 ha) fun hs1 f2 e4=>?_
 have g1:=f2.tk
 refine AA (WA (ns:=ns) (d:=d) (hs:=hs1) hx (σ:={σ with ask:=false}) ⟨h.at_,h.z⟩) fun v e=>AA e fun h2 e=>?_
 have e5:=e.2
 have e6:D2 (S ns) (d+8) 29 [.obj 0] [("style",.str "\"")] (scO σ::(hs++[O.list []])) v h2:=by
  exact D2.by [.c (V.none) (scO σ::hs1),.v .ob (O.list []),.x (v) (h2)] (an e4 (an g1 (an e5 trivial))) (by kernel_rfl)
 have e7:D2 (S ns) (d+9) 28 [.obj 0] [] (scO σ::(hs++[O.list []])) v h2:=by
  exact D2.by [.x (v) (h2)] (an e6 trivial) (by kernel_rfl)
 have e8:D2 (S ns) (d+10) 17 [.obj 0] [] (scO σ::hs) v h2:=by
  exact D2.by [.c (V.none) (scO σ::hs),.c (V.none) (scO σ::(hs++[O.list []])),.c (V.none) (scO σ::(hs++[O.list []])),.c (Ai 34) (scO σ::(hs++[O.list []])),.a 28,.x (v) (h2)] (an e1 (an e2 (an e3 (an (Bi (ns:=ns) (σ:=σ) (d:=d+8) (hs:=hs++[O.list []]) (r:=x++r) (c:=34) (h:=h)) (an e7 trivial))))) (by kernel_rfl)
 have e9:Dd (S ns) (d+11) Vf Vk ⟨GZ,scO σ::hs⟩ v ⟨GZ,h2⟩:=by
  exact Dd.by [.c (V.bool true) (scO σ::hs),.a 1,.x (v) (h2)] (an e0 (an e8 trivial)) (by kernel_rfl)
 refine⟨v,h2,e.1,?_⟩
 exact D2.by [.y (v) (St.mk GZ h2)] (an e9 trivial) (by kernel_rfl)
end
section
variable {ns:List Int}{Z:List O}{d:Nat}{σ κ:Sc}{hs:List O}{x t r:List Nat}{T:List V}{D:List (V×V)}
theorem SM (h:Rd σ (0::[]))(f:CE Z hs σ T D)(hD:J1 κ D)(hT:BF T.length=true):
  ∃σ' hs',Ko Z hs' σ' (T++[OX σ])∧AN (S ns) (d+5) 17 [.obj 0] [] (scO σ::hs) .none (scO σ'::hs'):=by
 have e1:=M6 (ns:=ns) (d:=d) (hs:=hs) (by decide) (by decide) (by decide) (by decide) h
 refine BJ (Z4 (ns:=ns) (d:=d+2) f hD) fun D' hs1 f2 hD' e2=>?_
 have e3:=Kq (ns:=ns) (d:=d+3) (σ:=σ) (hs:=hs1) (m1 σ.cl)
 refine Dm (Zf (ns:=ns) (d:=d+1) f2 hD' hT) fun σ' hs' f3 e5=>?_
 refine⟨σ',hs',f3,?_⟩
 exact AN.by [.c (V.none) (scO σ::hs),.c (V.none) (scO σ::hs1),.c (V.none) (scO σ::hs1),.c (Ai 0) (scO σ::hs1),.a 2,.c (V.none) (scO σ'::hs')] (an e1 (an e2 (an e3 (an (Bi (ns:=ns) (σ:=σ) (d:=d+3) (hs:=hs1) (r:=[]) (c:=0) (h:=h)) (an e5 trivial))))) (by kernel_rfl)
theorem Vr (hx:MV x t (0::[]))(h:Rd σ (34::(x++34::0::[])))(f:CE Z hs σ [] [])(ha:σ.ask=true)(hd:σ.dn=false):
  ∃σ1 hs1 σ2 hs2 κ,AN (S ns) (d+10) 15 [.obj 0] [] (scO σ::hs) (Id x t σ) (scO σ1::hs1)∧AN (S ns) (d+10) 15 [.obj 0] [] (scO σ1::hs1) (OX κ) (scO σ2::hs2)∧AN (S ns) (d+10) 15 [.obj 0] [] (scO σ2::hs2) .none (scO σ2::hs2)∧(∀j,j<Z.length→hs2[j]? =Z[j]?):=by
 have e0:=M9 (ns:=ns) (d:=d+8) f hd
 refine AR (Y6 (ns:=ns) (d:=d) hx ⟨_,_,rfl⟩ h f ha) fun hs1 f1 e1=>?_
 have h1:Rd (HH x σ) (0::[]):=Yf h
 refine Dm (ZO (ns:=ns) (d:=d+6) f1 (by show 1≤lim;decide) hd rfl) fun D' hs2 f2 hc=>?_
 refine hc.elim (fun hc=>?_) fun hc=>?_
 ·have q:=hc.1
  subst q
  have g1:=JS (Jv (ns:=ns) e0 e1 (PP hc.2)) f2.tk (L6 _)
  have f3:=f2.take
  refine Dm (SM (ns:=ns) (d:=d+4) (σ:=Dv (HH x σ)) ⟨h1.at_,h1.z⟩ f3 (.no (κ:=σ)) rfl) fun σ4 hs4 f4 e4=>?_
  have e3:=M9 (ns:=ns) (d:=d+8) f3 hd
  exact⟨_,_,_,_,_,g1,JS (Jv e3 e4 (Jw f4.dn)) f4.tk (L6 _),Y0 f4.take,f4.take.kp⟩
 ·have q:=hc.1
  subst q
  refine Dm (SM (ns:=ns) (d:=d+4) h1 f2 .yes rfl) fun σ4 hs4 f4 e4=>?_
  exact⟨_,_,_,_,_,JS (Jv e0 e1 (Jv hc.2 e4 (Jw f4.dn))) f4.tk (Ww _ _),getD f4.take (L6 _),Y0 f4.take.take,f4.take.take.kp⟩
end
inductive ET where
 |ch (c:Nat) (fast:Bool)
 |br (l:List Nat)
noncomputable abbrev N8:List Nat:=[32,9,13,10,133,8232,8233]
inductive EZ:List Nat→Prop
 |dash0:EZ [45,45,45]
 |dots0:EZ [46,46,46]
 |dash {c:Nat} {r:List Nat}:c∈N8→EZ (45::45::45::c::r)
 |dots {c:Nat} {r:List Nat}:c∈N8→EZ (46::46::46::c::r)
inductive Pz:Bool→List Nat→List ET→List Nat→Bool→List Nat→Prop
 |doc {u:List Nat}:EZ u→Pz true u [] [] false u
 |eot {h:Bool}:Pz h [] [] [] false []
 |quote {h:Bool} {r:List Nat}:Pz h (34::r) [] [34] true r
 |brk {h cl:Bool} {b l u x r:List Nat} {its:List ET}:DQ b l u→Pz true u its x cl r→Pz h (b++u) (.br l::its) (b++x) cl r
 |sign {h cl:Bool} {c:Nat} {u x r:List Nat} {its:List ET}:c∉[34,92]→c∉BRK→(h=true→¬EZ (c::u))→Pz false u its x cl r→Pz h (c::u) (.ch c (decide (c∉[32,9]))::its) (c::x) cl r
 |ebrk {h cl:Bool} {b l u x r:List Nat} {its:List ET}:DQ b l u→Pz true u its x cl r→Pz h (92::(b++u)) (.br []::its) (92::(b++x)) cl r
 |esc {h cl:Bool} {e v:Nat} {u x r:List Nat} {its:List ET}:esc e=some v→Pz false u its x cl r→Pz h (92::e::u) (.ch v true::its) (92::e::x) cl r
 |code {h cl:Bool} {e n v:Nat} {hx u x r:List Nat} {its:List ET}:Cz e=some n→hx.length=n→(∀y∈hx,y∈HEX)→EB hx 0=some v→v<1114112→Pz false u its x cl r→Pz h (92::e::(hx++u)) (.ch v true::its) (92::e::(hx++x)) cl r
 |unk0 {h:Bool}:Pz h [92] [] [92] false []
 |unk {h:Bool} {e:Nat} {u:List Nat}:esc e=none→Cz e=none→e∉BRK→Pz h (92::e::u) [] [92] false (e::u)
 |short {h:Bool} {e n:Nat} {hx u:List Nat}:Cz e=some n→(∀y∈hx,y∈HEX)→hx.length<n→(∀y,u.head? =some y→y∉HEX)→Pz h (92::e::(hx++u)) [] [92,e] false (hx++u)
inductive Yp where
 |ns
 |sp (ws:List Nat)
 |br (l t:List Nat)
noncomputable def G2 (l t:List Nat):List Nat:=if l=[] then t else FD l t
noncomputable def Bf:Yp→List ET→List Nat
 | .ns,[]=>[]
 | .sp ws,[]=>ws
 | .br l t,[]=>G2 l t
 | .ns,.ch c true::r=>c::Bf .ns r
 | .ns,.ch c false::r=>Bf (.sp [c]) r
 | .ns,.br l::r=>Bf (.br l []) r
 | .sp ws,.ch c true::r=>ws++c::Bf .ns r
 | .sp ws,.ch c false::r=>Bf (.sp (ws++[c])) r
 | .sp ws,.br []::r=>ws++Bf (.br [] []) r
 | .sp ws,.br (a::l)::r=>Bf (.br (a::l) []) r
 | .br l t,.ch c true::r=>G2 l t++c::Bf .ns r
 | .br l t,.ch c false::r=>Bf (.br l t) r
 | .br l t,.br []::r=>G2 l t++Bf (.br [] []) r
 | .br l t,.br (a::l')::r=>Bf (.br l (t++(a::l'))) r
noncomputable abbrev Ja:List Nat:=34::0::[]
noncomputable def Yn (x v:List Nat):Prop:=∃x1 t1 x2 t2,x=(x1++x2)++[34]∧E8 x1 t1 (x2++Ja)∧Tl x2 t2 Ja∧t1++t2=v
noncomputable def bV (ws x v:List Nat):Prop:=∃x',x=x'++[34]∧Tl (ws++x') v Ja
noncomputable def bc (ws x:List Nat)(its:List ET):Prop:=∃y t0 x1 t1 x2 t2,x=(y++(x1++x2))++[34]∧F4 (ws++y) t0 (x1++(x2++Ja))∧E8 x1 t1 (x2++Ja)∧Tl x2 t2 Ja∧∀l t,Bf (.br l t) its=G2 l (t++t0)++(t1++t2)
inductive Gn (ws:List Nat):List Nat→List Nat→Prop
 |doc {x r:List Nat}:HS (ws++x) r→Gn ws x r
 |ns {y t0 x1 r:List Nat}:F4 (ws++y) t0 (x1++r)→FI x1 r→Gn ws (y++x1) r
 |tl {y t0 x1 t1 x2 r:List Nat}:F4 (ws++y) t0 (x1++(x2++r))→E8 x1 t1 (x2++r)→GB x2 r→Gn ws (y++(x1++x2)) r
theorem Pz.split {h cl:Bool}{u x r:List Nat}{its:List ET}(p:Pz h u its x cl r):u=x++r:=by
 induction p with
 |doc=>rfl
 |eot=>rfl
 |quote=>rfl
 |brk _ _ ih=>rw[ih,AB]
 |sign _ _ _ _ ih=>rw[ih];rfl
 |ebrk _ _ ih=>rw[ih,B0,AB]
 |esc _ _ ih=>rw[ih];rfl
 |code _ _ _ _ _ _ ih=>rw[ih,B0,B0,AB]
 |unk0=>rfl
 |unk=>rfl
 |short=>rfl
theorem Bm:EM []:=fun zz h=>nomatch h
theorem HF:Cf []:=fun zz h=>nomatch h
theorem D8 {c:Nat}{run:List Nat}(hc:c∉GO)(h:EM run):EM (c::run):=fun y hy=>(AZ.mp hy).elim (fun e=>e▸hc) (h y)
theorem Ix {c:Nat}{ws:List Nat}(hc:c∈[32,9])(h:Cf ws):Cf (ws++[c]):=fun y hy=>(BB.mp hy).elim (h y) fun e=>by rw[Ac.mp e];exact hc
theorem E8.cons {c:Nat}{x t r:List Nat}(hc:c∉GO)(h:E8 x t r):E8 (c::x) (c::t) r:=by
 cases h with
 |stop hr h1 h2 h3=>exact .stop (D8 hc hr) h1 h2 h3
 |apos hr h=>exact .apos (D8 hc hr) h
 |esc hr h1 h=>exact .esc (D8 hc hr) h1 h
 |code hr h1 h2 h3 h4 h5 h=>exact .code (D8 hc hr) h1 h2 h3 h4 h5 h
 |line hr h1 h2 h=>exact .line (D8 hc hr) h1 h2 h
theorem FI.cons {c:Nat}{x r:List Nat}(hc:c∉GO)(h:FI x r):FI (c::x) r:=by
 cases h with
 |unk hr h1 h2 h3 h4=>exact .unk (D8 hc hr) h1 h2 h3 h4
 |short hr h1 h2 h3 h4 h5=>exact .short (D8 hc hr) h1 h2 h3 h4 h5
 |doc hr h1 h2=>exact .doc (D8 hc hr) h1 h2
 |apos hr h=>exact .apos (D8 hc hr) h
 |esc hr h1 h=>exact .esc (D8 hc hr) h1 h
 |code hr h1 h2 h3 h4 h5 h=>exact .code (D8 hc hr) h1 h2 h3 h4 h5 h
 |line hr h1 h2 h=>exact .line (D8 hc hr) h1 h2 h
theorem J6 {c:Nat}{r:List Nat}(h:c≠45∧c≠46):Es (c::r):=.no (fun e=>h.1 (Bj e).1) fun e=>h.2 (Bj e).1
theorem Oy {c:Nat}(h:c∈MU)(h0:c≠0):c∈N8:=(AZ.mp h).resolve_left h0
theorem Zz {u:List Nat}{a b c:Nat}(q:(u++[0]).take 3=[a,b,c])(hc:c≠0):∃r,u=a::b::c::r:=by
 rcases u with _|⟨x,_|⟨y,_|⟨z,u⟩⟩⟩
 ·exact absurd (show 1=3 from congrArg A9 q) (by decide)
 ·exact absurd (show 2=3 from congrArg A9 q) (by decide)
 ·exact(hc (Bj (Bj (Bj (q:[x,y,0]=_)).2).2).1.symm).elim
 ·exact⟨u,congrArg (·++u) (q:[x,y,z]=_)⟩
theorem Xv {u:List Nat}(h:¬EZ u)(h0:0∉u):Es (u++[0]):=by
 by_cases q1:(u++[0]).take 3=[45,45,45]
 ·refine AA (Zz q1 (by decide)) fun r e=>?_
  subst e
  rcases r with _|⟨e,r⟩
  ·exact(h .dash0).elim
  ·exact .dash (c:=e) (r:=r++[0]) fun z=>h (.dash (Oy z fun e0=>h0 (by rw[←e0];simp)))
 ·by_cases q2:(u++[0]).take 3=[46,46,46]
  ·refine AA (Zz q2 (by decide)) fun r e=>?_
   subst e
   rcases r with _|⟨e,r⟩
   ·exact(h .dots0).elim
   ·exact .dots (c:=e) (r:=r++[0]) fun z=>h (.dots (Oy z fun e0=>h0 (by rw[←e0];simp)))
  ·exact .no q1 q2
theorem Ux {c:Nat}(h:c∈N8):c∈MU:=.tail _ h
theorem YI {u:List Nat}(h:EZ u):Vi (u++[0]):=by
 cases h with
 |dash0=>exact .dash (c:=0) (r:=[]) (.head _)
 |dots0=>exact .dots (c:=0) (r:=[]) (.head _)
 |@dash c r hc=>exact .dash (c:=c) (r:=r++[0]) (Ux hc)
 |@dots c r hc=>exact .dots (c:=c) (r:=r++[0]) (Ux hc)
theorem NR {ws r:List Nat}(hw:Cf ws)(h:ws≠[]∨Es r):Es (ws++r):=by
 rcases ws with _|⟨w,ws⟩
 ·exact h.resolve_left fun z=>z rfl
 ·exact J6 ⟨fun e=>absurd (e▸hw w (.head _)) (by decide),fun e=>absurd (e▸hw w (.head _)) (by decide)⟩
noncomputable def HI (cl:Bool)(x r v:List Nat):Prop:=match cl with
 |true=>Yn x v
 |false=>EU x (r++[0])
noncomputable def Pm (cl:Bool)(ws x r v:List Nat):Prop:=match cl with
 |true=>bV ws x v
 |false=>GB (ws++x) (r++[0])
noncomputable def N9 (cl:Bool)(ws x r:List Nat)(its:List ET):Prop:=match cl with
 |true=>bc ws x its
 |false=>Gn ws x (r++[0])
theorem DQ.z {b l u:List Nat}(h:DQ b l u):DQ b l (u++[0]):=by
 cases h with
 |crlf=>exact .crlf
 |@one c r hc hn=>
  refine .one hc fun r' e=>?_
  rcases u with _|⟨a,u⟩
  ·injection e with e1 e2;injection e2 with e2 e3;cases e2
  ·
   injection e with e1 e2;injection e2 with e2 e3
   exact hn u (by rw[e1,e2])
 |wide hc=>exact .wide hc
theorem DQ.to {b l u v:List Nat}(h:DQ b l u)(e:u++[0]=v):DQ b l v:=e▸h.z
section
variable {cl:Bool}{x r v ws b l u:List Nat}{its:List ET}
theorem RU {c:Nat}(hc:c∉GO)(h:HI cl x r v):HI cl (c::x) r (c::v):=by
 rcases cl with _|_
 ·
  cases (show EU x (r++[0]) from h) with
  |first hn=>exact EU.first (hn.cons hc)
  |@later x1 t1 x2 _ h1 h2=>exact EU.later (x1:=c::x1) (h1.cons hc) h2
 ·obtain⟨x1,t1,x2,t2,e,h1,h2,e2⟩:=h;exact⟨c::x1,c::t1,x2,t2,by rw[e];rfl,h1.cons hc,h2,by rw[←e2];rfl⟩
theorem Ti (h:HI cl x r v):HI cl (39::x) r (39::v):=by
 rcases cl with _|_
 ·
  cases (show EU x (r++[0]) from h) with
  |first hn=>exact EU.first (.apos (run:=[]) Bm hn)
  |@later x1 t1 x2 _ h1 h2=>exact EU.later (x1:=39::x1) (.apos (run:=[]) Bm h1) h2
 ·obtain⟨x1,t1,x2,t2,e,h1,h2,e2⟩:=h;exact⟨39::x1,39::t1,x2,t2,by rw[e];rfl,.apos (run:=[]) Bm h1,h2,by rw[←e2];rfl⟩
theorem WE {e a:Nat}(he:esc e=some a)(h:HI cl x r v):HI cl (92::e::x) r (a::v):=by
 rcases cl with _|_
 ·
  cases (show EU x (r++[0]) from h) with
  |first hn=>exact EU.first (.esc (run:=[]) Bm he hn)
  |@later x1 t1 x2 _ h1 h2=>exact EU.later (x1:=92::e::x1) (.esc (run:=[]) Bm he h1) h2
 ·obtain⟨x1,t1,x2,t2,e',h1,h2,e2⟩:=h;exact⟨92::e::x1,a::t1,x2,t2,by rw[e'];rfl,.esc (run:=[]) Bm he h1,h2,by rw[←e2];rfl⟩
theorem Th {e n a:Nat}{hx:List Nat}(he:Cz e=some n)(hn:hx.length=n)(hh:∀y∈hx,y∈HEX)(hv:EB hx 0=some a)(ha:a<1114112)(h:HI cl x r v):HI cl (92::e::(hx++x)) r (a::v):=by
 rcases cl with _|_
 ·
  cases (show EU x (r++[0]) from h) with
  |first hk=>exact EU.first (.code (run:=[]) Bm he hn hh hv ha hk)
  |@later x1 t1 x2 _ h1 h2=>
   have:=EU.later (x1:=92::e::(hx++x1)) (.code (run:=[]) Bm he hn hh hv ha h1) h2
   rw[show 92::e::(hx++x1)++x2=92::e::(hx++(x1++x2)) from by simp] at this
   exact this
 ·obtain⟨x1,t1,x2,t2,e',h1,h2,e2⟩:=h;exact⟨92::e::(hx++x1),a::t1,x2,t2,by rw[e'];simp,.code (run:=[]) Bm he hn hh hv ha h1,h2,by rw[←e2];rfl⟩
theorem Tg (hb:DQ b l u)(hu:u=x++r)(hr:cl=true→r=[])(h:N9 cl [] x r its):HI cl (92::(b++x)) r (Bf (.br [] []) its):=by
 rcases cl with _|_
 ·
  cases (show Gn [] x (r++[0]) from h) with
  |doc hx=>exact EU.first (.doc (run:=[]) Bm (hb.to (by rw[hu,AB])) hx)
  |@ns y t0 x1 _ hw hx=>exact EU.first (.line (run:=[]) Bm (hb.to (by rw[hu];simp)) hw hx)
  |@tl y t0 x1 t1 x2 _ hw h1 hx=>
   have:=EU.later (.line (run:=[]) Bm (hb.to (v:=y++(x1++(x2++(r++[0])))) (by rw[hu];simp)) hw h1) hx
   rw[show[]++92::(b++(y++x1))++x2=92::(b++(y++(x1++x2))) from by simp] at this
   exact this
 ·
  refine LP (h) fun y t0 x1 t1 x2 t2 e hw h1 h2 hf=>?_
  have e3:u++[0]=y++(x1++(x2++Ja)):=by rw[hu,hr rfl,e];simp
  refine⟨92::(b++(y++x1)),t0++t1,x2,t2,by rw[e];simp,?_,h2,by rw[hf];simp[G2]⟩
  exact .line (run:=[]) Bm (hb.to e3) hw h1
theorem XL {q:Nat}(hw0:ws≠[])(hw:Cf ws)(hr:cl=true→r=[])(e0:x++(r++[0])=q::u)(h1:q∉[32,9])(h2:q≠0)(h3:q∉BRK)(h:HI cl x r v):Pm cl ws x r (ws++v):=by
 rcases cl with _|_
 ·
  cases (show EU x (r++[0]) from h) with
  |first hn=>exact GB.blankN hw0 hw e0 h1 h2 h3 hn
  |@later x1 t1 x2 _ hn hx=>exact GB.blank hw0 hw (by rw[←AB];exact e0) h1 h2 h3 hn hx
 ·
  refine D6 (h) fun x1 t1 x2 t2 e hn ht e2=>?_
  refine⟨x1++x2,e,?_⟩
  rw[←e2]
  exact .blank hw0 hw (c:=q) (u:=u) (by rw[←e0,hr rfl,e];simp) h1 h2 h3 hn ht
theorem XO {q:Nat}(hw:Cf ws)(hr:cl=true→r=[])(e0:x++(r++[0])=q::u)(h1:q∉[32,9])(h3:q∉BRK)(hd:Es (ws++q::u))(hf:∀l t,Bf (.br l t) its=G2 l t++v)(h:HI cl x r v):N9 cl ws x r its:=by
 rcases cl with _|_
 ·
  cases (show EU x (r++[0]) from h) with
  |first hn=>exact Gn.ns (y:=[]) (t0:=[]) (by rw[AK,e0];exact .stop hw h1 h3 hd) hn
  |@later x1 t1 x2 _ hn hx=>exact Gn.tl (y:=[]) (t0:=[]) (by rw[AK,←AB x1,e0];exact .stop hw h1 h3 hd) hn hx
 ·
  refine D6 (h) fun x1 t1 x2 t2 e hn ht e2=>?_
  have e3:x1++(x2++Ja)=q::u:=by rw[←e0,hr rfl,e];simp
  exact⟨[],[],x1,t1,x2,t2,e,by rw[AK,e3];exact .stop hw h1 h3 hd,hn,ht,fun l t=>by rw[hf,AK,e2]⟩
theorem WD (hw:Cf ws)(hb:DQ b l u)(hl:l≠[])(hu:u=x++r)(hr:cl=true→r=[])(h:N9 cl [] x r its):Pm cl ws (b++x) r (Bf (.br l []) its):=by
 rcases cl with _|_
 ·
  cases (show Gn [] x (r++[0]) from h) with
  |doc hx=>exact GB.doc hw (hb.to (by rw[hu,AB])) hx
  |@ns y t0 x1 _ hy hx=>
   have:=GB.foldN hw (hb.to (v:=y++(x1++(r++[0]))) (by rw[hu];simp)) hy hx
   rw[show(ws++(b++y))++x1=ws++(b++(y++x1)) from by simp] at this
   exact this
  |@tl y t0 x1 t1 x2 _ hy h1 hx=>
   have:=GB.fold hw (hb.to (v:=y++(x1++(x2++(r++[0])))) (by rw[hu];simp)) hy h1 hx
   rw[show(ws++(b++y))++(x1++x2)=ws++(b++(y++(x1++x2))) from by simp] at this
   exact this
 ·
  refine LP (h) fun y t0 x1 t1 x2 t2 e hy h1 h2 hf=>?_
  refine⟨(b++y)++(x1++x2),by rw[e];simp,?_⟩
  rw[hf,show G2 l ([]++t0)=FD l t0 from if_neg hl,←AB ws,]
  exact .fold hw (hb.to (by rw[hu,hr rfl,e];simp)) hy h1 h2
theorem RT {q:Nat}(hr:cl=true→r=[])(e0:x++(r++[0])=q::u)(h1:q∈GO)(h2:q≠39)(h3:q≠92)(h:Pm cl [] x r v):HI cl x r v:=by
 rcases cl with _|_
 ·exact EU.later (x1:=[]) (t1:=[]) (by rw[show x++(r++[0])=q::u from e0];exact .stop Bm h1 h2 h3) h
 ·
  refine AR (h) fun x' e ht=>?_
  exact⟨[],[],x',v,e,by rw[show x'++Ja=q::u from by rw[←e0,hr rfl,e];simp];exact .stop Bm h1 h2 h3,ht,rfl⟩
theorem WF (hw:Cf ws)(hb:DQ b l u)(hl:l≠[])(hu:u=x++r)(hr:cl=true→r=[])(hd:Es (ws++(b++(u++[0]))))(h:N9 cl [] x r its):N9 cl ws (b++x) r (.br l::its):=by
 rcases cl with _|_
 ·
  cases (show Gn [] x (r++[0]) from h) with
  |doc hx=>
   refine Gn.doc ?_
   exact .more hw (hb.to (v:=x++(r++[0])) (by rw[hu];simp)) (by rw[←AB x,←hu];exact hd) hx
  |@ns y t0 x1 _ hy hx=>
   have:=Gn.ns (y:=b++y) (t0:=l++t0) (.more hw (hb.to (v:=y++(x1++(r++[0]))) (by rw[hu];simp)) (by rw[show y++(x1++(r++[0]))=u++[0] from by rw[hu];simp];exact hd) hy) hx
   rw[AB] at this
   exact this
  |@tl y t0 x1 t1 x2 _ hy h1 hx=>
   have:=Gn.tl (y:=b++y) (t0:=l++t0) (.more hw (hb.to (v:=y++(x1++(x2++(r++[0])))) (by rw[hu];simp)) (by rw[show y++(x1++(x2++(r++[0])))=u++[0] from by rw[hu];simp];exact hd) hy) h1 hx
   rw[AB] at this
   exact this
 ·
  refine LP (h) fun y t0 x1 t1 x2 t2 e hy h1 h2 hf=>?_
  have e3:u++[0]=y++(x1++(x2++Ja)):=by rw[hu,hr rfl,e];simp
  refine⟨b++y,l++t0,x1,t1,x2,t2,by rw[e];simp,?_,h1,h2,fun l0 t=>?_⟩
  ·exact .more hw (hb.to e3) (by rw[←e3];exact hd) hy
  ·rcases l with _|⟨a,l⟩
   ·exact(hl rfl).elim
   ·
    show Bf (.br l0 (t++(a::l))) its=_
    rw[hf,AB]
theorem Mk {c:Nat}(h:Pm cl (ws++[c]) x r v):Pm cl ws (c::x) r v:=by
 rcases cl with _|_
 ·have h:GB ((ws++[c])++x) (r++[0]):=h;rw[AB] at h;exact h
 ·obtain⟨x',e,ht⟩:=h;exact⟨c::x',by rw[e];rfl,by rw[AB] at ht;exact ht⟩
theorem RW {c:Nat}(h:N9 cl (ws++[c]) x r its):N9 cl ws (c::x) r (.ch c false::its):=by
 rcases cl with _|_
 ·
  cases (show Gn (ws++[c]) x (r++[0]) from h) with
  |doc hx=>exact Gn.doc (by rw[AB] at hx;exact hx)
  |@ns y t0 x1 _ hy hx=>exact Gn.ns (y:=c::y) (by rw[AB] at hy;exact hy) hx
  |@tl y t0 x1 t1 x2 _ hy h1 hx=>exact Gn.tl (y:=c::y) (by rw[AB] at hy;exact hy) h1 hx
 ·
  refine LP (h) fun y t0 x1 t1 x2 t2 e hy h1 h2 hf=>?_
  exact⟨c::y,t0,x1,t1,x2,t2,by rw[e];rfl,by rw[AB] at hy;exact hy,h1,h2,hf⟩
end
structure Ve (h cl:Bool)(u x r:List Nat)(its:List ET):Prop where
 ns:(h=true→¬EZ u)→HI cl x r (Bf .ns its)
 sp:h=false→∀ws,ws≠[]→Cf ws→Pm cl ws x r (Bf (.sp ws) its)
 br:∀ws,Cf ws→((ws=[]∧h=true)∨(ws≠[]∧h=false))→N9 cl ws x r its
theorem Jq {c:Nat}{u:List Nat}(h1:c≠45)(h2:c≠46):¬EZ (c::u):=fun h=>by
 rcases h with _|_<;>first|exact h1 rfl|exact h2 rfl
theorem GI {h cl:Bool}{u x r w:List Nat}{its:List ET}{q:Nat}{v:List Nat}(hr:cl=true→r=[])(e0:x++(r++[0])=q::w)(h1:q∉[32,9])(h2:q≠0)(h3:q∉BRK)(hd:h=true→Es (q::w))(hn:(h=true→¬EZ u)→HI cl x r v)
  (hdoc:h=true→¬EZ u)(f1:Bf .ns its=v)(f2:∀ws,Bf (.sp ws) its=ws++v)(f3:∀l t,Bf (.br l t) its=G2 l t++v):Ve h cl u x r its:=
 ⟨fun hk=>by rw[f1];exact hn hk,fun hh ws hw0 hw=>by rw[f2];exact XL hw0 hw hr e0 h1 h2 h3 (hn hdoc),
  fun ws hw hk=>XO hw hr e0 h1 h3 (NR hw (hk.elim (fun z=>.inr (hd z.2)) fun z=>.inl z.1)) f3 (hn hdoc)⟩
theorem Uw {h cl:Bool}{u x r:List Nat}{its:List ET}(p:Pz h u its x cl r):(∀c∈u,c≠0∧c<1114112)→(cl=true→r=[])→Ve h cl u x r its:=by
 induction p with
 |@doc u hd=>
  intro hc hr
  refine⟨fun hk=>(hk rfl hd).elim,fun hh=>(nomatch hh),fun ws hw hk=>?_⟩
  have e:ws=[]:=hk.elim (·.1) fun z=>nomatch z.2
  subst e
  exact Gn.doc (.here (YI hd))
 |@eot h=>
  intro hc hr
  have hz:GB [] ([]++[0]):=.eos HF
  refine⟨fun zz=>EU.later (x1:=[]) (t1:=[]) (.stop Bm (by decide) (by decide) (by decide)) hz,fun hh ws hw0 hw=>?_,fun ws hw hk=>?_⟩
  ·show GB (ws++[]) ([]++[0])
   rw[AK]
   exact .eos hw
  ·exact Gn.tl (y:=[]) (t0:=[]) (x1:=[]) (t1:=[]) (x2:=[]) (by rw[AK];exact .stop hw (by decide) (by decide) (NR hw (.inr (J6 (by decide))))) (.stop Bm (by decide) (by decide) (by decide)) hz
 |@quote h r=>
  intro hc hr
  have hq:E8 [] [] (34::0::[]):=.stop Bm (by decide) (by decide) (by decide)
  refine⟨fun zz=>⟨[],[],[],[],rfl,hq,.quote,rfl⟩,fun hh ws hw0 hw=>⟨[],rfl,?_⟩,fun ws hw hk=>⟨[],[],[],[],[],[],rfl,?_,hq,.quote,fun l t=>by rw[AK,AK,AK];rfl⟩⟩
  ·have:=Tl.blank (ws:=ws) (x1:=[]) (t1:=[]) (x2:=[]) (t2:=[]) hw0 hw (c:=34) (u:=[0]) rfl (by decide) (by decide) (by decide) hq .quote
   rw[AK] at this
   show Tl (ws++[]) ws Ja
   rw[AK]
   rw[AK] at this
   exact this
  ·rw[AK];exact .stop hw (by decide) (by decide) (NR hw (.inr (J6 (by decide))))
 |@brk h cl b l u x r its hb p ih=>
  intro hc hr
  have T:=ih (fun c hm=>hc c (AX _ hm)) hr
  have hu:=p.split
  refine hb.head fun q b' eb hq hl=>?_
  have B:=T.br [] HF (.inl ⟨rfl,rfl⟩)
  have S:=fun ws hw=>WD (ws:=ws) hw hb hl hu hr B
  obtain⟨a,l',el⟩:∃a l',l=a::l':=by cases l with|nil=>exact(hl rfl).elim|cons a l'=>exact⟨a,l',rfl⟩
  have q39:q≠39:=fun e=>absurd (e▸hq) (by decide)
  have q92:q≠92:=fun e=>absurd (e▸hq) (by decide)
  have q4:q≠45∧q≠46:=⟨fun e=>absurd (e▸hq) (by decide),fun e=>absurd (e▸hq) (by decide)⟩
  refine⟨fun hk=>?_,fun hh ws hw0 hw=>?_,fun ws hw hk=>?_⟩
  ·exact RT hr (q:=q) (u:=(b'++x)++(r++[0])) (by rw[eb];rfl) ((show ∀z∈BRK,z∈GO by decide) q hq) q39 q92 (S [] HF)
  ·have:=S ws hw
   subst el
   exact this
  ·refine WF hw hb hl hu hr (NR hw (.inr ?_)) B
   rw[eb];exact J6 q4
 |@sign h cl c u x r its hc1 hc2 hdoc p ih=>
  intro hc hr
  have T:=ih (fun c hm=>hc c (.tail _ hm)) hr
  have hu:=p.split
  have c0:=hc c (.head _)
  by_cases hb:c∈[32,9]
  ·rw[decide_eq_false (fun z=>z hb)]
   have c39:c≠39:=fun e=>absurd (e▸hb) (by decide)
   have c92:c≠92:=fun e=>absurd (e▸hb) (by decide)
   have hw1:Cf [c]:=Ix (ws:=[]) hb HF
   refine⟨fun hk=>?_,fun hh ws hw0 hw=>?_,fun ws hw hk=>?_⟩
   ·exact RT hr (q:=c) (u:=x++(r++[0])) rfl ((show ∀z∈[32,9],z∈GO by decide) c hb) c39 c92 (Mk (ws:=[]) (T.sp rfl [c] (by simp) hw1))
   ·exact Mk (T.sp rfl (ws++[c]) (by simp) (Ix hb hw))
   ·exact RW (T.br (ws++[c]) (Ix hb hw) (.inr ⟨by simp,rfl⟩))
  ·rw[decide_eq_true hb]
   have N:=T.ns (fun z=>nomatch z)
   refine GI (v:=c::Bf .ns its) hr (q:=c) (w:=x++(r++[0])) rfl hb c0.1 hc2 (fun hk=>?_) (fun hk=>?_) hdoc rfl (fun zz=>rfl) (fun zz zz=>rfl)
   ·have:=Xv (hdoc hk) (fun z=>(hc 0 z).1 rfl)
    rw[hu] at this
    simpa using this
   ·by_cases q39:c=39
    ·subst q39;exact Ti N
    ·exact RU (fun z=>by
      simp only[AZ,BH,or_false,not_or] at z hc1 hc2 hb
      have:=c0.1
      lia) N
 |@ebrk h cl b l u x r its hb p ih=>
  intro hc hr
  have T:=ih (fun c hm=>hc c (.tail _ (AX _ hm))) hr
  have N:=Tg hb p.split hr (T.br [] HF (.inl ⟨rfl,rfl⟩))
  exact GI hr (q:=92) (w:=(b++x)++(r++[0])) rfl (by decide) (by decide) (by decide) (fun zz=>J6 (by decide)) (fun zz=>N) (fun zz=>Jq (by decide) (by decide)) rfl (fun zz=>rfl) (fun zz zz=>rfl)
 |@esc h cl e v u x r its he p ih=>
  intro hc hr
  have T:=ih (fun c hm=>hc c (.tail _ (.tail _ hm))) hr
  have N:=WE he (T.ns fun z=>nomatch z)
  exact GI hr (q:=92) (w:=e::(x++(r++[0]))) rfl (by decide) (by decide) (by decide) (fun zz=>J6 (by decide)) (fun zz=>N) (fun zz=>Jq (by decide) (by decide)) rfl (fun zz=>rfl) (fun zz zz=>rfl)
 |@code h cl e n v hx u x r its he hn hh hv hv2 p ih=>
  intro hc hr
  have T:=ih (fun c hm=>hc c (.tail _ (.tail _ (AX _ hm)))) hr
  have N:=Th he hn hh hv hv2 (T.ns fun z=>nomatch z)
  exact GI hr (q:=92) (w:=e::((hx++x)++(r++[0]))) rfl (by decide) (by decide) (by decide) (fun zz=>J6 (by decide)) (fun zz=>N) (fun zz=>Jq (by decide) (by decide)) rfl (fun zz=>rfl) (fun zz zz=>rfl)
 |@unk0 h=>
  intro hc hr
  have N:HI false [92] [] []:=EU.first (.unk (run:=[]) (u:=[]) Bm (by decide) (by decide) (by decide) (by decide))
  exact GI hr (q:=92) (w:=[0]) rfl (by decide) (by decide) (by decide) (fun zz=>J6 (by decide)) (fun zz=>N) (fun zz=>Jq (by decide) (by decide)) rfl (fun ws=>(AK ws).symm) (fun l t=>(AK _).symm)
 |@unk h e u he hn hb=>
  intro hc hr
  have N0:EU [92] (e::(u++[0])):=EU.first (.unk (run:=[]) (u:=u++[0]) Bm he hn hb (hc e (.tail _ (.head _))).2)
  have N:HI false [92] (e::u) []:=N0
  exact GI hr (q:=92) (w:=e::u++[0]) rfl (by decide) (by decide) (by decide) (fun zz=>J6 (by decide)) (fun zz=>N) (fun zz=>Jq (by decide) (by decide)) rfl (fun ws=>(AK ws).symm) (fun l t=>(AK _).symm)
 |@short h e n hx u he hh hl hu=>
  intro hc hr
  have N:HI false [92,e] (hx++u) []:=by
   refine EU.first ?_
   rcases u with _|⟨y,u⟩
   ·
    rw[AK]
    exact .short (run:=[]) (u:=[]) Bm he hh hl (by decide) (by decide)
   ·
    have:=FI.short (run:=[]) (u:=u++[0]) (y:=y) Bm he hh hl (hu y rfl) (hc y (.tail _ (.tail _ (AX _ (.head _))))).2
    rw[show hx++y::(u++[0])=(hx++y::u)++[0] from by simp] at this
    exact this
  exact GI hr (q:=92) (w:=e::(hx++u)++[0]) rfl (by decide) (by decide) (by decide) (fun zz=>J6 (by decide)) (fun zz=>N) (fun zz=>Jq (by decide) (by decide)) rfl (fun ws=>(AK ws).symm) (fun l t=>(AK _).symm)
noncomputable def H4 (l:List Nat):Bool:=decide (l.take 4=[48,48,48,49])
noncomputable def Fx:List Nat→Bool
 |[]=>true
 |c::r=>if c=34 then r.isEmpty else if c=92 then(match r with
  |[]=>true
  |e::r'=>(!(decide (e=85))||H4 r')&&Fx r') else Fx r
theorem Kz (c:Nat)(r:List Nat):Fx (c::r)=if c=34 then r.isEmpty else if c=92 then(match r with
  |[]=>true
  |e::r'=>(!(decide (e=85))||H4 r')&&Fx r') else Fx r:=by rcases r with _|_<;>rfl
theorem WT {y v:Nat}(h:EC y=some v):v<16:=(Hb h).2.1
theorem S5 {y:Nat}(h:y∈HEX):∃v,EC y=some v:=by
 have:∀z∈HEX,(EC z).isSome=true:=by decide
 exact Bw.mp (this y h)
theorem Mt {l:List Nat}:∀{a:Nat},(∀y∈l,y∈HEX)→∃v,EB l a=some v∧v<(a+1) * 16 ^ l.length:=by
 induction l with
 |nil=>exact fun{a} zz=>⟨a,rfl,by simp⟩
 |cons c l ih=>
  intro a h
  refine Do (S5 (h c (.head _))) fun d hd=>?_
  have hl:=WT hd
  refine AR (ih (a:=a * 16+d) fun y hy=>h y (.tail _ hy)) fun v hv hb=>?_
  refine⟨v,by show(EC c).bind _=_;rw[hd];exact hv,Am hb ?_⟩
  rw[AQ,Nat.pow_succ,Nat.mul_comm (16 ^ _) 16,←Nat.mul_assoc]
  exact Nat.mul_le_mul_right _ (by lia)
theorem UR {e n:Nat}(h:Cz e=some n):(e≠85∧n≤4)∨(e=85∧n=8):=by
 unfold Cz Ao at h
 simp only[Bc,List.lookup_nil] at h
 repeat' split at h
 all_goals first|cases h|skip
 ·exact .inl ⟨fun e'=>by simp_all,by decide⟩
 ·exact .inl ⟨fun e'=>by simp_all,by decide⟩
 ·exact .inr ⟨by simp_all,rfl⟩
noncomputable def spanH:Nat→List Nat→List Nat×List Nat
 |0,u=>([],u)
 |_+1,[]=>([],[])
 |n+1,c::u=>if c∈HEX then(c::(spanH n u).1,(spanH n u).2) else([],c::u)
theorem M1 (n c:Nat)(u:List Nat):spanH (n+1) (c::u)=if c∈HEX then(c::(spanH n u).1,(spanH n u).2) else([],c::u):=rfl
theorem TH (n:Nat):∀u,(spanH n u).1++(spanH n u).2=u:=by
 induction n with
 |zero=>exact fun u=>rfl
 |succ n ih=>
  intro u
  rcases u with _|⟨c,u⟩
  ·rfl
  ·
   rw[M1]
   split
   ·exact congrArg (c::·) (ih u)
   ·rfl
theorem Nu (n:Nat):∀u,(∀y∈(spanH n u).1,y∈HEX)∧(spanH n u).1.length≤n∧((spanH n u).1.length<n→∀y,(spanH n u).2.head? =some y→y∉HEX):=by
 induction n with
 |zero=>exact fun u=>⟨fun zz h=>(nomatch h),Ak _,fun h=>(nomatch h)⟩
 |succ n ih=>
  intro u
  rcases u with _|⟨c,u⟩
  ·exact⟨fun zz h=>(nomatch h),BX _,fun zz y h=>(nomatch h)⟩
  ·
   rw[M1]
   split
   ·next hc=>
    have:=ih u
    exact⟨fun y hy=>(AZ.mp hy).elim (fun e=>e▸hc) (this.1 y),F5 this.2.1,fun h=>this.2.2 (Dk h)⟩
   ·next hc=>exact⟨fun zz h=>(nomatch h),BX _,fun zz y h=>by rw[←AG h];exact hc⟩
theorem S2 {y:Nat}(h:y∈HEX):y≠34∧y≠92:=⟨fun e=>absurd (e▸h) (by decide),fun e=>absurd (e▸h) (by decide)⟩
theorem GQ {c:Nat}{r:List Nat}(h1:c≠34)(h2:c≠92)(h:Fx (c::r)=true):Fx r=true:=by
 rw[Kz] at h
 rw[if_neg h1,if_neg h2] at h
 exact h
theorem WG {l:List Nat}:∀{r:List Nat},(∀y∈l,y∈HEX)→Fx (l++r)=true→Fx r=true:=by
 induction l with
 |nil=>exact fun zz h=>h
 |cons c l ih=>
  intro r h1 h2
  have:=S2 (h1 c (.head _))
  exact ih (fun y hy=>h1 y (.tail _ hy)) (GQ this.1 this.2 h2)
theorem PQ {r:List Nat}(h:H4 r=true):∃r',r=48::48::48::49::r':=
 ⟨r.drop 4,(DF 4 r).symm.trans (congrArg (·++r.drop 4) (of_decide_eq_true h))⟩
theorem WH {e:Nat}{r:List Nat}(h:Fx (92::e::r)=true):Fx r=true∧(e=85→∃r',r=48::48::48::49::r'):=by
 rw[Kz] at h
 rw[if_neg (by decide),if_pos rfl] at h
 have h:((!(decide (e=85))||H4 r)&&Fx r)=true:=h
 have h:=AP.mp h
 refine⟨h.2,fun z=>PQ ?_⟩
 have h1:=h.1
 rw[decide_eq_true z] at h1
 exact h1
theorem PG {b l u:List Nat}(hb:DQ b l u)(h:Fx (b++u)=true):Fx u=true:=by
 cases hb with
 |crlf=>exact GQ (by decide) (by decide) (GQ (by decide) (by decide) h)
 |one hc=>exact GQ (fun e=>absurd (e▸hc) (by decide)) (fun e=>absurd (e▸hc) (by decide)) h
 |wide hc=>exact GQ (fun e=>absurd (e▸hc) (by decide)) (fun e=>absurd (e▸hc) (by decide)) h
theorem Sh {c:Nat}{u:List Nat}(h:c∈BRK):∃b l r,c::u=b++r∧DQ b l r∧r.length<(c::u).length:=by
 by_cases q:∃r',c::u=13::10::r'
 ·refine Do (q) fun r' e=>?_
  exact⟨[13,10],[10],r',e,.crlf,by rw[e];simp only[AQ];lia⟩
 ·by_cases w:c∈[8232,8233]
  ·exact⟨[c],[c],u,rfl,.wide w,by simp⟩
  ·refine⟨[c],[10],u,rfl,.one ?_ fun r' e=>q ⟨r',e⟩,by simp⟩
   simp only[AZ,BH,or_false] at h w ⊢
   lia
theorem ZG:∀(n:Nat) (u:List Nat),u.length≤n→Fx u=true→∀h:Bool,∃its x cl r,Pz h u its x cl r∧(cl=true→r=[]):=by
 intro n
 induction n with
 |zero=>
  intro u hl hq h
  have:u=[]:=By.mp (Nat.le_zero.mp hl)
  subst this
  exact⟨[],[],false,[],.eot,fun z=>nomatch z⟩
 |succ n ih=>
  intro u hl hq h
  by_cases hd:h=true∧EZ u
  ·obtain⟨rfl,hd⟩:=hd
   exact⟨[],[],false,u,.doc hd,fun z=>nomatch z⟩
  have hd':h=true→¬EZ u:=fun a b=>hd ⟨a,b⟩
  rcases u with _|⟨c,u⟩
  ·exact⟨[],[],false,[],.eot,fun z=>nomatch z⟩
  ·
   have hl:u.length≤n:=Nat.le_of_succ_le_succ hl
   by_cases h34:c=34
   ·subst h34
    have:u=[]:=by rw[Kz,if_pos rfl] at hq;exact CP.mp hq
    subst this
    exact⟨[],[34],true,[],.quote,fun zz=>rfl⟩
   by_cases hbr:c∈BRK
   ·refine HC (Sh (u:=u) hbr) fun b l r e hb hlt=>?_
    rw[e] at hq ⊢
    refine HB (ih r (by rw[AQ] at hlt;lia) (PG hb hq) true) fun its x cl r' p hr=>?_
    exact⟨_,_,_,_,.brk hb p,hr⟩
   by_cases h92:c=92
   ·subst h92
    rcases u with _|⟨e,u⟩
    ·exact⟨[],[92],false,[],.unk0,fun z=>nomatch z⟩
    ·
     have hl:u.length≤n:=by simp only[AQ] at hl;lia
     have hq2:=WH hq
     by_cases hbe:e∈BRK
     ·refine HC (Sh (u:=u) hbe) fun b l r e' hb hlt=>?_
      have hq3:Fx (e::u)=true:=by
       rw[Kz]
       rw[if_neg (fun z=>absurd (z▸hbe) (by decide)),if_neg (fun z=>absurd (z▸hbe) (by decide))]
       exact hq2.1
      rw[e'] at hq3 ⊢
      refine HB (ih r (by rw[AQ] at hlt;lia) (PG hb hq3) true) fun its x cl r' p hr=>?_
      exact⟨_,_,_,_,.ebrk hb p,hr⟩
     rcases he:esc e with _|v
     ·
      rcases hc:Cz e with _|m
      ·exact⟨_,_,_,_,.unk he hc hbe,fun z=>nomatch z⟩
      ·
       have hs:=Nu m u
       have e0:=TH m u
       by_cases hlen:(spanH m u).1.length<m
       ·rw[←e0]
        exact⟨_,_,_,_,.short hc hs.1 hlen (hs.2.2 hlen),fun z=>nomatch z⟩
       ·have hm:(spanH m u).1.length=m:=FT hs.2.1 (Fs.mp hlen)
        refine AR (Mt (a:=0) hs.1) fun v hv hvb=>?_
        have hv2:v<1114112:=by
         rcases UR hc with z|z
         ·refine Am hvb ?_
          rw[hm]
          exact AM (Nat.mul_le_mul_left _ (Nat.pow_le_pow_right (by decide) z.2)) (by decide)
         ·refine Do (hq2.2 z.1) fun r' er=>?_
          rw[z.2] at hm
          have e1:=e0
          rw[z.2] at e1 hv hs
          rw[er] at e1 hv hs
          have e5:(spanH 8 (48::48::48::49::r')).1=48::48::48::49::(spanH 4 r').1:=by
           simp only[M1,if_pos (show 48∈HEX by decide),if_pos (show 49∈HEX by decide)]
          rw[e5] at hv hs
          refine AR (Mt (l:=(spanH 4 r').1) (a:=1) fun y hy=>hs.1 y (by simp[hy])) fun w hw hwb=>?_
          have:EB (48::48::48::49::(spanH 4 r').1) 0=EB (spanH 4 r').1 1:=rfl
          rw[this,hw] at hv
          rw[←AG hv]
          refine Am hwb ?_
          exact AM (Nat.mul_le_mul_left _ (Nat.pow_le_pow_right (by decide) (Nu 4 r').2.1)) (by decide)
        refine HB (ih (spanH m u).2 (by have:=congrArg A9 e0;rw[AF] at this;lia) (WG hs.1 (by rw[e0];exact hq2.1)) false) fun its x cl r' p hr=>?_
        have p:=Pz.code (h:=h) hc hm hs.1 hv hv2 p
        rw[e0] at p
        exact⟨_,_,_,_,p,hr⟩
     ·
      refine HB (ih u hl hq2.1 false) fun its x cl r' p hr=>?_
      exact⟨_,_,_,_,.esc he p,hr⟩
   ·have hq':=GQ h34 h92 hq
    refine HB (ih u hl hq' false) fun its x cl r' p hr=>?_
    exact⟨_,_,_,_,.sign (by simp[h34,h92]) hbr hd' p,hr⟩
noncomputable abbrev Ax:=List (Nat×Bool)
noncomputable def AT:List ET→Ax×List (List Nat×Ax)
 |[]=>([],[])
 | .ch c f::r=>((c,f)::(AT r).1,(AT r).2)
 | .br l::r=>([],(l,(AT r).1)::(AT r).2)
noncomputable def DX (r:Ax):Ax:=r.dropWhile fun p=> !p.2
noncomputable def Ex (r:Ax):Ax:=(r.reverse.dropWhile fun p=> !p.2).reverse
noncomputable def GJ:List (List Nat×Ax)→Bool
 |[]=>false
 |p::_=> !p.1.isEmpty
noncomputable def DT (L:List (List Nat×Ax))(r:Ax):List Nat:=(bif GJ L then Ex r else r).map (·.1)
noncomputable def Ce (L:List (List Nat×Ax))(r:Ax):List Nat:=DT L (DX r)
noncomputable def DL (p:Bool)(l:List Nat)(L:List (List Nat×Ax))(b:List Nat):List Nat:=if l=[10]∧p=true then(if GJ L=true∧b=[] then[] else[32]) else l
noncomputable def FM:Bool→List (List Nat×Ax)→List Nat
 |_,[]=>[]
 |p,(l,r)::L=>DL p l L (Ce L r)++(Ce L r++FM (!(Ce L r).isEmpty) L)
theorem Qs (p:Bool)(x:List Nat×Ax)(L:List (List Nat×Ax)):FM p (x::L)=DL p x.1 L (Ce L x.2)++(Ce L x.2++FM (!(Ce L x.2).isEmpty) L):=rfl
theorem LR:∀ws:List Nat,(ws.map fun c=>(c,false)).dropWhile (fun p=> !p.2)=[]
 |[]=>rfl
 |_::ws=>LR ws
theorem Oq (ws:List Nat):Ex (ws.map fun c=>(c,false))=[]:=by
 unfold Ex
 rw[←List.map_reverse,LR]
 rfl
theorem JM (ws:List Nat):(ws.map fun c=>(c,false)).map (·.1)=ws:=by
 rw[DN]
 exact(EL fun zz zz=>rfl).trans (List.map_id ws)
theorem Q3 (a:Ax)(c:Nat)(r:Ax):Ex (a++(c,true)::r)=a++(c,true)::Ex r:=by
 unfold Ex
 rw[List.reverse_append,List.reverse_cons,AB,List.dropWhile_append]
 split
 ·next h=>
  rw[CP] at h
  rw[h]
  simp
 ·next h=>simp
theorem KQ (L:List (List Nat×Ax))(a:Ax)(c:Nat)(r:Ax):DT L (a++(c,true)::r)=a.map (·.1)++c::DT L r:=by
 unfold DT
 rcases GJ L with _|_
 ·simp
 ·simp[Q3]
theorem Lx (L:List (List Nat×Ax)):DT L []=[]:=by
 unfold DT
 cases GJ L<;>rfl
theorem QB {l t:List Nat}(h:l≠[10]∨t≠[]):G2 l t=if l=[10] then t else l++t:=by
 unfold G2 FD
 by_cases h1:l=[]
 ·subst h1;simp
 ·rw[if_neg h1]
  by_cases h2:l=[10]
  ·rw[if_pos h2,if_pos h2,if_neg (h.resolve_left fun z=>z h2)]
  ·rw[if_neg h2,if_neg h2]
theorem V3:G2 [10] []=[32]:=rfl
theorem N6 (L:List (List Nat×Ax))(c:Nat)(r:Ax):Ce L ((c,true)::r)=c::DT L r:=KQ L [] c r
theorem SH (its:List ET):Bf .ns its=DT (AT its).2 (AT its).1++FM true (AT its).2∧
  (∀ws,Bf (.sp ws) its=DT (AT its).2 (ws.map (fun c=>(c,false))++(AT its).1)++FM true (AT its).2)∧
  (∀l t,(l≠[10]∨t≠[])→Bf (.br l t) its=(if l=[10] then t else l++t)++(Ce (AT its).2 (AT its).1++FM (!(Ce (AT its).2 (AT its).1).isEmpty) (AT its).2))∧
  Bf (.br [10] []) its=(if GJ (AT its).2=true∧Ce (AT its).2 (AT its).1=[] then[] else[32])++(Ce (AT its).2 (AT its).1++FM (!(Ce (AT its).2 (AT its).1).isEmpty) (AT its).2):=by
 induction its with
 |nil=>
  refine⟨rfl,fun ws=>?_,fun l t h=>?_,rfl⟩
  ·have:DT [] (ws.map (fun c=>(c,false))++[])=ws:=by rw[AK];exact JM ws
   show ws=DT [] (ws.map (fun c=>(c,false))++[])++[]
   rw[this,AK]
  ·show G2 l t=_
   rw[QB h]
   exact(AK _).symm
 |cons it its ih=>
  obtain⟨i1,i2,i3,i4⟩:=ih
  cases it with
  |ch c f=>
   rcases f with _|_
   ·
    have e:(AT (.ch c false::its))=((c,false)::(AT its).1,(AT its).2):=rfl
    rw[e]
    have eb:Ce (AT its).2 ((c,false)::(AT its).1)=Ce (AT its).2 (AT its).1:=rfl
    rw[eb]
    refine⟨i2 [c],fun ws=>?_,i3,i4⟩
    show Bf (.sp (ws++[c])) its=_
    rw[i2];first|rfl|(rw[AB];rfl)|(rw[AK];rfl)|(rw[AB,AB];rfl)|simp
   ·
    have e:(AT (.ch c true::its))=((c,true)::(AT its).1,(AT its).2):=rfl
    rw[e]
    refine⟨?_,fun ws=>?_,fun l t h=>?_,?_⟩
    ·show c::Bf .ns its=_
     rw[i1]
     have:=KQ (AT its).2 [] c (AT its).1
     rw[Dr] at this
     rw[this];rfl
    ·show ws++c::Bf .ns its=_
     rw[i1,KQ,JM];first|rfl|(rw[AB];rfl)|(rw[AK];rfl)|(rw[AB,AB];rfl)|simp
    ·show G2 l t++c::Bf .ns its=_
     rw[i1,QB h,N6];first|rfl|(rw[AB];rfl)|(rw[AK];rfl)|(rw[AB,AB];rfl)|simp
    ·show G2 [10] []++c::Bf .ns its=_
     rw[i1,V3,N6];first|rfl|(rw[AB];rfl)|(rw[AK];rfl)|(rw[AB,AB];rfl)|simp
  |br l2=>
   have e:(AT (.br l2::its))=([],(l2,(AT its).1)::(AT its).2):=rfl
   rw[e]
   have b0:Ce ((l2,(AT its).1)::(AT its).2) []=[]:=Lx _
   rw[b0]
   generalize hb:Ce (AT its).2 (AT its).1=b at i3 i4
   have hv:∀p,FM p ((l2,(AT its).1)::(AT its).2)=DL p l2 (AT its).2 b++(b++FM (!b.isEmpty) (AT its).2):=fun p=>by rw[Qs,hb]
   rcases l2 with _|⟨a,l2⟩
   ·
    have B:=i3 [] [] (.inl (by decide))
    have s:∀p,DL p [] (AT its).2 b=[]:=fun p=>by unfold DL;rw[if_neg (fun z=>nomatch z.1)]
    have t:∀r,DT (([],(AT its).1)::(AT its).2) r=r.map (·.1):=fun r=>rfl
    refine⟨?_,fun ws=>?_,fun l t' h=>?_,?_⟩
    ·show Bf (.br [] []) its=_
     rw[B,hv,s,Lx];first|rfl|(rw[AB];rfl)|(rw[AK];rfl)|(rw[AB,AB];rfl)|simp
    ·have tt:DT (([],(AT its).1)::(AT its).2) (ws.map (fun c=>(c,false))++[])=ws:=by rw[AK,t,JM]
     show ws++Bf (.br [] []) its=DT (([],(AT its).1)::(AT its).2) (ws.map (fun c=>(c,false))++[])++_
     rw[tt,B,hv,s];first|rfl|(rw[AB];rfl)|(rw[AK];rfl)|(rw[AB,AB];rfl)|simp
    ·show G2 l t'++Bf (.br [] []) its=_
     rw[B,hv,s,QB h];first|rfl|(rw[AB];rfl)|(rw[AK];rfl)|(rw[AB,AB];rfl)|simp
    ·show G2 [10] []++Bf (.br [] []) its=_
     rw[B,hv,s,V3];first|rfl|simp[GJ]
   ·
    have ns:Bf (.br (a::l2) []) its=DL true (a::l2) (AT its).2 b++(b++FM (!b.isEmpty) (AT its).2):=by
     by_cases q:a::l2=[10]
     ·rw[q,i4];unfold DL;rw[if_pos (c:=([10]:List Nat)=[10]∧true=true) ⟨rfl,rfl⟩]
     ·rw[i3 _ _ (.inl q)];unfold DL;rw[if_neg q,if_neg (fun z=>q z.1),AK]
    have s:DL false (a::l2) (AT its).2 b=a::l2:=by unfold DL;rw[if_neg (fun z=>nomatch z.2)]
    refine⟨?_,fun ws=>?_,fun l t' h=>?_,?_⟩
    ·show Bf (.br (a::l2) []) its=_
     rw[ns,hv,Lx];first|rfl|(rw[AB];rfl)|(rw[AK];rfl)|(rw[AB,AB];rfl)|simp
    ·show Bf (.br (a::l2) []) its=_
     rw[ns,hv]
     have:DT ((a::l2,(AT its).1)::(AT its).2) (ws.map (fun c=>(c,false))++[])=[]:=by
      rw[AK]
      show(Ex _).map (·.1)=[]
      rw[Oq];rfl
     rw[this];first|rfl|(rw[AB];rfl)|(rw[AK];rfl)|(rw[AB,AB];rfl)|simp
    ·show Bf (.br l (t'++(a::l2))) its=_
     rw[i3 _ _ (.inr (by simp)),hv]
     show _=_++([]++(DL false _ _ _++_))
     rw[s]
     by_cases q:l=[10]
     ·rw[if_pos q,if_pos q];first|rfl|(rw[AB];rfl)|(rw[AK];rfl)|(rw[AB,AB];rfl)|simp
     ·rw[if_neg q,if_neg q];first|rfl|(rw[AB];rfl)|(rw[AK];rfl)|(rw[AB,AB];rfl)|simp
    ·show Bf (.br [10] ([]++(a::l2))) its=_
     rw[i3 _ _ (.inr (by simp)),hv]
     show _=_++([]++(DL false _ _ _++_))
     have c1:(GJ ((a::l2,(AT its).1)::(AT its).2)=true∧([]:List Nat)=[]):=⟨rfl,rfl⟩
     rw[s,if_pos rfl,if_pos c1];first|rfl|(rw[AB];rfl)|(rw[AK];rfl)|(rw[AB,AB];rfl)|simp
noncomputable def hdN:List Nat→Nat→Nat→Nat
 |[],_,hd=>hd
 |c::r,p,hd=>hdN r (p+1) (if c∈BRK then p+1 else hd)
theorem IS:∀(a b:List Nat) (p hd:Nat),hdN (a++b) p hd=hdN b (p+a.length) (hdN a p hd):=by
 intro a
 induction a with
 |nil=>exact fun zz zz zz=>rfl
 |cons c a ih=>
  intro b p hd
  show hdN (a++b) (p+1) _=_
  rw[ih,AQ,BP,BY 1]
  rfl
theorem Mu:∀{w:List Nat} {p hd:Nat},(∀c∈w,c∉BRK)→hdN w p hd=hd:=by
 intro w
 induction w with
 |nil=>exact fun zz=>rfl
 |cons c w ih=>
  intro p hd h
  show hdN w (p+1) (if c∈BRK then p+1 else hd)=hd
  rw[if_neg (h c (.head _)),ih fun c hc=>h c (.tail _ hc)]
theorem MI {b l u:List Nat}{p hd:Nat}(h:DQ b l u):hdN b p hd=p+b.length:=by
 cases h with
 |crlf=>rfl
 |@one c r hc _=>
  show(if c∈BRK then p+1 else hd)=_
  rw[if_pos ((show ∀z∈[13,10,133],z∈BRK by decide) c hc)];rfl
 |@wide c r hc=>
  show(if c∈BRK then p+1 else hd)=_
  rw[if_pos ((show ∀z∈[8232,8233],z∈BRK by decide) c hc)];rfl
theorem OK:∀(x:List Nat) {p hd:Nat},hd≤p→hdN x p hd≤p+x.length:=by
 intro x
 induction x with
 |nil=>exact fun h=>h
 |cons c x ih=>
  intro p hd h
  have:=ih (p:=p+1) (hd:=if c∈BRK then p+1 else hd) (by split<;>lia)
  show hdN x (p+1) _≤_
  rw[AQ]
  lia
theorem Ev {B u:List Nat}{p c:Nat}(h:B.drop p=c::u):B.getD p 0=c:=by
 rw[C3,←EF p,←Cj,h];rfl
theorem Tv {B:List Nat}:∀{w z:List Nat} {p ln k:Nat},B.drop p=w++z→(∀c∈w,c∉BRK∧c≠65279)→Hs B w.length p (ln,k)=(ln,k+w.length):=by
 intro w
 induction w with
 |nil=>exact fun zz zz=>rfl
 |cons c w ih=>
  intro z p ln k h hw
  have hc:=hw c (.head _)
  have e:H9 B p (ln,k)=(ln,k+1):=by
   have hb:=hc.1
   simp only[AZ,BH,or_false,not_or] at hb
   unfold H9
   rw[Ev h]
   show(if c∈[10,133,8232,8233] then _ else _)=_
   rw[if_neg (by simp only[AZ,BH,or_false];lia),if_neg (by lia),if_neg hc.2]
  show Hs B w.length (p+1) (H9 B p (ln,k))=_
  rw[e,ih (z:=z) (by rw[←Be,h];rfl) fun c hc=>hw c (.tail _ hc),AQ,BP,BY 1]
theorem Xd {B b l u z:List Nat}{p ln k:Nat}(hb:DQ b l u)(h:B.drop p=b++(u++0::z)):Hs B b.length p (ln,k)=(ln+1,0):=by
 cases hb with
 |crlf=>
  have h1:B.drop (p+1)=10::(u++0::z):=by rw[←Be,h];rfl
  show H9 B (p+1) (H9 B p (ln,k))=_
  have e:H9 B p (ln,k)=(ln,k+1):=by unfold H9;rw[Ev h,Ev h1];rfl
  rw[e]
  unfold H9;rw[Ev h1];rfl
 |@one c r hc hn=>
  show H9 B p (ln,k)=_
  unfold H9
  rw[Ev h]
  show(if c∈[10,133,8232,8233] then _ else _)=_
  by_cases h13:c=13
  ·subst h13
   have h2:B.getD (p+1) 0≠10:=by
    rcases u with _|⟨y,u⟩
    ·rw[Ev (c:=0) (u:=z) (by rw[←Be,h];rfl)];decide
    ·
     rw[Ev (c:=y) (u:=u++0::z) (by rw[←Be,h];rfl)]
     exact fun e=>hn u (by rw[e])
   rw[if_neg (by decide),if_pos rfl,if_neg h2]
  ·rw[if_pos]
   simp only[AZ,BH,or_false] at hc ⊢
   lia
 |@wide c r hc=>
  show H9 B p (ln,k)=_
  unfold H9
  rw[Ev h]
  show(if c∈[10,133,8232,8233] then _ else _)=_
  rw[if_pos]
  simp only[AZ,BH,or_false] at hc ⊢
  lia
theorem SP {e v:Nat}(h:esc e=some v):e∉BRK:=fun z=>by rw[(GR z).1] at h;cases h
theorem K7 {e v:Nat}(h:Cz e=some v):e∉BRK:=fun z=>by rw[(GR z).2] at h;cases h
theorem S3 {y:Nat}(h:y∈HEX):y∉BRK:=(show ∀z∈HEX,z∉BRK by decide) y h
noncomputable def H3 (B x:List Nat)(its:List ET)(p hd ln:Nat):Prop:=Hs B x.length p (ln,p - hd)=(ln+(AT its).2.length,p+x.length - hdN x p hd)
theorem H8 {B w x z:List Nat}{its its':List ET}{p hd ln:Nat}(h:B.drop p=w++z)(hw:∀c∈w,c∉BRK∧c≠65279)(hh:hd≤p)(hr:(AT its').2.length=(AT its).2.length)(n:H3 B x its (p+w.length) hd ln):H3 B (w++x) its' p hd ln:=by
 unfold H3 at n ⊢
 rw[AF,K1,Tv h hw,show p - hd+w.length=p+w.length - hd from(Nat.sub_add_comm hh).symm,n,hr,IS,Mu fun c hc=>(hw c hc).1,BP]
theorem PH {B b l u x z:List Nat}{its its':List ET}{p hd ln:Nat}(hb:DQ b l u)(h:B.drop p=b++(u++0::z))(hr:(AT its').2.length=(AT its).2.length+1)(n:H3 B x its (p+b.length) (p+b.length) (ln+1)):H3 B (b++x) its' p hd ln:=by
 unfold H3 at n ⊢
 rw[Ep] at n
 rw[AF,K1,Xd hb h,n,hr,IS,MI hb,BP,BP,BY 1]
theorem Hi {B w z:List Nat}{p hd ln:Nat}(h:B.drop p=w++z)(hw:∀c∈w,c∉BRK∧c≠65279)(hh:hd≤p):H3 B w [] p hd ln:=by
 have:=H8 (its:=[]) (its':=[]) (x:=[]) (ln:=ln) h hw hh rfl (by unfold H3;rfl)
 rwa [AK] at this
theorem XP {h cl:Bool}{u x r:List Nat}{its:List ET}(q:Pz h u its x cl r):∀{B:List Nat} {p hd ln:Nat},B.drop p=u++[0]→(∀c∈u,c≠65279)→hd≤p→H3 B x its p hd ln:=by
 have one:∀{c:Nat},c∉BRK→c≠65279→∀y∈[c],y∉BRK∧y≠65279:=fun h1 h2 y hy=>by rw[Ac.mp hy];exact⟨h1,h2⟩
 induction q with
 |doc _=>exact fun hB hc hh=>Hi (w:=[]) hB (fun zz h=>nomatch h) hh
 |eot=>exact fun hB hc hh=>Hi (w:=[]) hB (fun zz h=>nomatch h) hh
 |quote=>exact fun hB hc hh=>Hi (w:=[34]) hB (one (by decide) (by decide)) hh
 |@brk h cl b l u x r its hb _ ih=>
  intro B p hd ln hB hc hh
  rw[AB] at hB
  exact PH hb hB rfl (ih (by rw[←Be,hB,Fu]) (fun c h=>hc c (AX _ h)) (Ak _))
 |@sign h cl c u x r its h1 h2 h3 _ ih=>
  intro B p hd ln hB hc hh
  exact H8 (w:=[c]) hB (one h2 (hc c (.head _))) hh rfl (ih (by rw[←Be,hB];rfl) (fun c h=>hc c (.tail _ h)) (by simp;lia))
 |@ebrk h cl b l u x r its hb _ ih=>
  intro B p hd ln hB hc hh
  have hB1:B.drop (p+[92].length)=b++(u++[0]):=by rw[←Be,hB];show(b++u)++[0]=_;rw[AB]
  exact H8 (w:=[92]) (its:=.br []::its) hB (one (by decide) (by decide)) hh rfl (PH hb hB1 rfl (ih (by rw[←Be,hB1,Fu]) (fun c h=>hc c (.tail _ (AX _ h))) (Ak _)))
 |@esc h cl e v u x r its he _ ih=>
  intro B p hd ln hB hc hh
  refine H8 (w:=[92,e]) hB (fun y hy=>?_) hh rfl (ih (by rw[←Be,hB];rfl) (fun c h=>hc c (.tail _ (.tail _ h))) (by simp;lia))
  simp only[AZ,BH,or_false] at hy
  rcases hy with rfl|rfl
  ·decide
  ·exact⟨SP he,hc _ (.tail _ (.head _))⟩
 |@code h cl e n v hx u x r its he hl hh' hL hv _ ih=>
  intro B p hd ln hB hc hh
  have hB:B.drop p=(92::e::hx)++(u++[0]):=by rw[hB];simp
  refine H8 (w:=92::e::hx) hB (fun y hy=>?_) hh rfl (ih (by rw[←Be,hB,Fu]) (fun c h=>hc c (.tail _ (.tail _ (AX _ h)))) (by simp;lia))
  simp only[AZ] at hy
  rcases hy with rfl|rfl|hy
  ·decide
  ·exact⟨K7 he,hc _ (.tail _ (.head _))⟩
  ·exact⟨S3 (hh' y hy),hc _ (.tail _ (.tail _ (B3 _ hy)))⟩
 |unk0=>exact fun hB hc hh=>Hi (w:=[92]) hB (one (by decide) (by decide)) hh
 |unk=>exact fun hB hc hh=>Hi (w:=[92]) hB (one (by decide) (by decide)) hh
 |@short h e n hx u he hh' hl hu=>
  intro B p hd ln hB hc hh
  refine Hi (w:=[92,e]) hB (fun y hy=>?_) hh
  simp only[AZ,BH,or_false] at hy
  rcases hy with rfl|rfl
  ·decide
  ·exact⟨K7 he,hc _ (.tail _ (.head _))⟩
theorem GN (s:Str):∀L:List Str,MT D7 s (L.map .str)=some (decide (s∈L))
 |[]=>rfl
 |x::L=>by
  show(MT D7 s (L.map .str)).map _=_
  rw[GN s L]
  by_cases h:x=s
  ·subst h;simp
  ·have h':¬s=x:=fun e=>h e.symm
   simp[h,h']
structure Tx (B:List Nat)(p:Nat)(u:List Nat):Prop where
 at_:B.drop p=u
 z:B.length≤lim
theorem Tx.sl {B u:List Nat}{p:Nat}(h:Tx B p u)(n:Nat):Ad B (min p B.length) (min (p+n) B.length)=u.take n:=by rw[Mg,h.at_]
theorem Tx.skip {B x u:List Nat}{p:Nat}(h:Tx B p (x++u)):Tx B (p+x.length) u:=⟨by rw[←Be,h.at_,Fu],h.z⟩
noncomputable def endN:List Nat→Nat
 |[]=>0
 |c::u=>if c=13∧u.head? =some 10 then 2 else if c∈BRK then 1 else 0
theorem Ga {c:Nat}{u:List Nat}(h:∀r,c::u≠13::10::r):endN (c::u)=if c∈BRK then 1 else 0:=by
 refine if_neg fun z=>?_
 rcases u with _|⟨d,u⟩
 ·exact AU z.2
 ·exact h u (by rw[z.1,AG z.2])
noncomputable abbrev Hh:List V:=[.str "\r",.str "\n",.str "\u0085",.str "\u2028",.str "\u2029"]
theorem UL (c:Nat):Hx (.str ⟨#[c]⟩) Hh=some (decide (c∈BRK)):=by
 have e:=GN ⟨#[c]⟩ ["\r","\n","\u0085","\u2028","\u2029"]
 have e2:decide ((⟨#[c]⟩:Str)∈(["\r","\n","\u0085","\u2028","\u2029"]:List Str))=decide (c∈BRK):=by
  have r:((["\r","\n","\u0085","\u2028","\u2029"]:List Str))=[⟨#[13]⟩,⟨#[10]⟩,⟨#[133]⟩,⟨#[8232]⟩,⟨#[8233]⟩]:=by decide+kernel
  rw[r]
  simp
 rw[e2] at e
 exact e
theorem SQ:Hx (.str ⟨#[]⟩) Hh=some false:=by
 have e:=GN ⟨#[]⟩ ["\r","\n","\u0085","\u2028","\u2029"]
 rw[show decide ((⟨#[]⟩:Str)∈(["\r","\n","\u0085","\u2028","\u2029"]:List Str))=false from by decide+kernel] at e
 exact e
section
variable {ns:List Int}{d:Nat}{a0:O}{hs:List O}{B u:List Nat}{p:Nat}
theorem OW:AN (S ns) (d+1) 40 [] [] (a0::hs) (.obj (hs.length+1)) (a0::(hs++[.list Hh])):=by
 exact AN.by [] trivial (by kernel_rfl)
theorem I9 (t:Tx B p u):∃hs',B5 hs hs'∧AN (S ns) (d+2) 44 [.str ⟨B.toArray⟩,.int (p:Int)] [] (a0::hs) (.int (endN u:Int)) (a0::hs'):=by
 have hz:=t.z
 have s2:=t.sl 2
 have s1:=t.sl 1
 by_cases q:∃r,u=13::10::r
 ·obtain⟨r,rfl⟩:=q
  refine⟨hs,.refl hs,?_⟩
  show AN _ _ _ _ _ _ (.int 2) _
  exact AN.by [.t,.a 1,.v .nat (min (p+2) (A9 B)),.t] (an (At (n:=A9 B) (h:=hz)) (an (Aw (n:=A9 B) (k:=p+2) (d:=A9 B)) (an (YL (l:=Ad (C5 (AE B)) (if 0≤(↑p:Int) then min (E9 (↑p:Int)) (A9 B) else E9 (↑(p+A9 B):Int)) (min (p+2) (A9 B))) (n:=(by assumption))) trivial))) (by kernel_rfl)
 ·have q2:Ad B (min p B.length) (min (p+2) B.length)≠[13,10]:=by
   rw[s2]
   intro e
   exact q ⟨u.drop 2,by rw[show 13::10::u.drop 2=[13,10]++u.drop 2 from rfl,←e,DF]⟩
  refine⟨hs++[.list Hh],.app hs,?_⟩
  rcases u with _|⟨c,u⟩
  ·
   have k:Hx (.str ⟨(Ad B (min p B.length) (min (p+1) B.length)).toArray⟩) Hh=some false:=by rw[s1];exact SQ
   show AN _ _ _ _ _ _ (.int 0) _
   exact AN.by [.t,.a 1,.v .nat (min (p+2) (A9 B)),.f,.t,.a 1,.v .nat (min (p+1) (A9 B)),.c (V.obj (A9 hs+1)) (a0::(hs++[O.list Hh])),.v .ob (O.list [V.str (A8 "\x0d"),V.str (A8 "\n"),V.str (A8 ""),V.str (A8 " "),V.str (A8 " ")]),.v .bool (false),.a 1] (an (At (n:=A9 B) (h:=hz)) (an (Aw (n:=A9 B) (k:=p+2) (d:=A9 B)) (an (LW (l:=Ad (C5 (AE B)) (if 0≤(↑p:Int) then min (E9 (↑p:Int)) (A9 B) else E9 (↑(p+A9 B):Int)) (min (p+2) (A9 B))) (n:=(by assumption))) (an (At (n:=A9 B) (h:=hz)) (an (Aw (n:=A9 B) (k:=p+1) (d:=A9 B)) (an (OW (ns:=ns) (d:=d) (a0:=a0) (hs:=hs)) (an (ga (l:=hs) (o:=O.list [V.str (A8 "\x0d"),V.str (A8 "\n"),V.str (A8 ""),V.str (A8 " "),V.str (A8 " ")]) (r:=[])) (an k trivial)))))))) (by kernel_rfl)
  ·
   rw[Ga fun r e=>q ⟨r,e⟩]
   have k:Hx (.str ⟨(Ad B (min p B.length) (min (p+1) B.length)).toArray⟩) Hh=some (decide (c∈BRK)):=by rw[s1];exact UL c
   by_cases hc:c∈BRK
   ·rw[if_pos hc]
    rw[decide_eq_true hc] at k
    show AN _ _ _ _ _ _ (.int 1) _
    exact AN.by [.t,.a 1,.v .nat (min (p+2) (A9 B)),.f,.t,.a 1,.v .nat (min (p+1) (A9 B)),.c (V.obj (A9 hs+1)) (a0::(hs++[O.list Hh])),.v .ob (O.list [V.str (A8 "\x0d"),V.str (A8 "\n"),V.str (A8 ""),V.str (A8 " "),V.str (A8 " ")]),.v .bool (true),.a 1] (an (At (n:=A9 B) (h:=hz)) (an (Aw (n:=A9 B) (k:=p+2) (d:=A9 B)) (an (LW (l:=Ad (C5 (AE B)) (if 0≤(↑p:Int) then min (E9 (↑p:Int)) (A9 B) else E9 (↑(p+A9 B):Int)) (min (p+2) (A9 B))) (n:=(by assumption))) (an (At (n:=A9 B) (h:=hz)) (an (Aw (n:=A9 B) (k:=p+1) (d:=A9 B)) (an (OW (ns:=ns) (d:=d) (a0:=a0) (hs:=hs)) (an (ga (l:=hs) (o:=O.list [V.str (A8 "\x0d"),V.str (A8 "\n"),V.str (A8 ""),V.str (A8 " "),V.str (A8 " ")]) (r:=[])) (an k trivial)))))))) (by kernel_rfl)
   ·rw[if_neg hc]
    rw[decide_eq_false hc] at k
    show AN _ _ _ _ _ _ (.int 0) _
    exact AN.by [.t,.a 1,.v .nat (min (p+2) (A9 B)),.f,.t,.a 1,.v .nat (min (p+1) (A9 B)),.c (V.obj (A9 hs+1)) (a0::(hs++[O.list Hh])),.v .ob (O.list [V.str (A8 "\x0d"),V.str (A8 "\n"),V.str (A8 ""),V.str (A8 " "),V.str (A8 " ")]),.v .bool (false),.a 1] (an (At (n:=A9 B) (h:=hz)) (an (Aw (n:=A9 B) (k:=p+2) (d:=A9 B)) (an (LW (l:=Ad (C5 (AE B)) (if 0≤(↑p:Int) then min (E9 (↑p:Int)) (A9 B) else E9 (↑(p+A9 B):Int)) (min (p+2) (A9 B))) (n:=(by assumption))) (an (At (n:=A9 B) (h:=hz)) (an (Aw (n:=A9 B) (k:=p+1) (d:=A9 B)) (an (OW (ns:=ns) (d:=d) (a0:=a0) (hs:=hs)) (an (ga (l:=hs) (o:=O.list [V.str (A8 "\x0d"),V.str (A8 "\n"),V.str (A8 ""),V.str (A8 " "),V.str (A8 " ")]) (r:=[])) (an k trivial)))))))) (by kernel_rfl)
end
noncomputable def Ah:List (Nat×Nat):=[(48,0),(97,7),(98,8),(116,9),(9,9),(110,10),(118,11),(102,12),(114,13),(101,27),(32,32),(34,34),(47,47),(92,92),(78,133),(95,160),(76,8232),(80,8233)]
noncomputable def hexT:List (Nat×Nat):=[(48,0),(49,1),(50,2),(51,3),(52,4),(53,5),(54,6),(55,7),(56,8),(57,9),(97,10),(98,11),(99,12),(100,13),(101,14),(102,15),(65,10),(66,11),(67,12),(68,13),(69,14),(70,15)]
noncomputable abbrev AW (L:List (Nat×Nat)):List (V×V):=L.map fun p=>(Ai p.1,V.int (p.2:Int))
theorem Hq {L:List (Nat×Nat)}{e:Nat}(h:e∉L.map (·.1)):L.lookup e=none:=by
 induction L with
 |nil=>rfl
 |cons p L ih=>
  rw[An,AZ,not_or] at h
  obtain⟨a,b⟩:=p
  rw[Bc,show(e==a)=false from beq_eq_false_iff_ne.mpr h.1]
  exact ih h.2
theorem Te {L M:List (Nat×Nat)}(h:∀e∈L.map (·.1)++M.map (·.1),L.lookup e=M.lookup e)(e:Nat):L.lookup e=M.lookup e:=by
 by_cases q:e∈L.map (·.1)++M.map (·.1)
 ·exact h e q
 ·rw[BB,not_or] at q
  rw[Hq q.1,Hq q.2]
theorem I0 (e:Nat):Ah.lookup e=esc e:=Te (by decide) e
theorem PW (e:Nat):hexT.lookup e=EC e:=by
 by_cases hc:e<128
 ·exact(by decide+kernel:∀e,e<128→hexT.lookup e=EC e) e hc
 ·rw[MH hc]
  exact Hq fun z=>hc ((by decide:∀y∈hexT.map (·.1),y<128) e z)
theorem EP (e:Nat){L:List (Nat×Nat)}(hL:L.isEmpty=false):CW (.str ⟨#[e]⟩) (AW L)=some ((L.lookup e).map fun v:Nat=>V.int (v:Int)):=by
 show(if(AW L).isEmpty=true then none else EK D7 ⟨#[e]⟩ (AW L))=_
 rw[if_neg (by cases L with|nil=>cases hL|cons=>exact fun z=>nomatch z)]
 exact Gv (f:=fun v=>V.int (v:Int)) e L
theorem Ro (L:List (Nat×Nat)):EK D7 ⟨#[]⟩ (AW L)=some none:=by
 induction L with
 |nil=>rfl
 |cons p L ih=>
  show(if(⟨#[p.1]⟩:Str)=⟨#[]⟩ then some (some (V.int (p.2:Int))) else EK D7 ⟨#[]⟩ (AW L))=_
  rw[if_neg (by rw[FA];exact fun z=>nomatch z)]
  exact ih
theorem Mq {L:List (Nat×Nat)}(hL:L.isEmpty=false):CW (.str ⟨#[]⟩) (AW L)=some none:=by
 show(if(AW L).isEmpty=true then none else EK D7 ⟨#[]⟩ (AW L))=_
 rw[if_neg (by cases L with|nil=>cases hL|cons=>exact fun z=>nomatch z)]
 exact Ro L
section
variable {ns:List Int}{d:Nat}{a0:O}{hs:List O}
theorem Gs:AN (S ns) (d+1) 41 [] [] (a0::hs) (.obj (hs.length+1)) (a0::(hs++[.sdict (AW Ah)])):=by
 exact AN.by [] trivial (by kernel_rfl)
theorem FX:AN (S ns) (d+1) 42 [] [] (a0::hs) (.obj (hs.length+1)) (a0::(hs++[.sdict (AW Ao)])):=by
 exact AN.by [] trivial (by kernel_rfl)
theorem VO:AN (S ns) (d+1) 43 [] [] (a0::hs) (.obj (hs.length+1)) (a0::(hs++[.sdict (AW hexT)])):=by
 exact AN.by [] trivial (by kernel_rfl)
end
noncomputable def HX (S:BD)(m d:Nat)(t:Expr)(s:St)(b:Bool)(s':St):Prop:=∀k e o,DA S o (k b s')→DA S o ((E S m).tr d t s k e)
noncomputable def Ca (S:BD)(m d:Nat)(ss:List Stmt)(s:St)(f:Fl)(s':St):Prop:=∀k e o,DA S o (k f s')→DA S o (Cy (E S m) d ss s k e)
section
variable {S:BD}{m d:Nat}{t:Expr}{ss b el:List Stmt}{s s1 s':St}{f:Fl}{q:Bool}{p:Pos}
noncomputable def bq (S:BD)(is:List Dz)(m d:Nat)(t:Expr)(s:St):(Bool→St→Ay)→KE→PO:=fun k e=>Cu S is ((E S m).tr d t s k e)
noncomputable def bj (p:Prop)(q:Bool)(s:St):(Bool→St→Ay)→KE→PO:=fun k zz=>(p,k q s)
theorem HX.by (is:List Dz){p:Prop}(hp:p)(e:bq S is m d t s=bj p q s'):HX S m d t s q s':=fun k e' o y=>DR hp (HW e k e') y
theorem Ca.by (is:List Dz){p:Prop}(hp:p)(e:XR S is m d ss s=Uy p f s'):Ca S m d ss s f s':=fun k e' o y=>DR hp (HW e k e') y
theorem Ca.if_t (hT:HX S m d t s true s1)(x:Ca S m d b s1 f s'):Ca S (m+1) d [.If t b el p] s f s':=fun k e o y=>by
 show DA S o ((E S m).tr d t s (fun q s1=>Ej q (Cy (E S m) d b) (Cy (E S m) d el) s1 (fun f s2=>Hd (.pure .next) f s2 k e) e) e)
 refine hT _ e o ((x (fun f s2=>Hd (.pure .next) f s2 k e) e o ?_).imp fun n h=>h)
 rcases f with _|_<;>exact y
theorem Ca.if_f (hT:HX S m d t s false s1)(x:Ca S m d el s1 f s'):Ca S (m+1) d [.If t b el p] s f s':=fun k e o y=>by
 show DA S o ((E S m).tr d t s (fun q s1=>Ej q (Cy (E S m) d b) (Cy (E S m) d el) s1 (fun f s2=>Hd (.pure .next) f s2 k e) e) e)
 refine hT _ e o ((x (fun f s2=>Hd (.pure .next) f s2 k e) e o ?_).imp fun n h=>h)
 rcases f with _|_<;>exact y
end
noncomputable def PF:Stmt:=Bv (C9 45) 6
noncomputable def NA:List Stmt:=wB PF
noncomputable def OL:Stmt:=Bv NA 2
noncomputable def T0:Expr:=wT OL
noncomputable abbrev BQ (B:List Nat)(ri ei hd p:Nat)(cl go:Bool)(sg sz td fg cc co:V):List (Str×V):=
 [("text",.str ⟨B.toArray⟩),("rows",.obj (ri+1)),("ends",.obj (ei+1)),("head",.int (hd:Int)),("at",.int (p:Int)),("closed",.bool cl),("going",.bool go),("sign",sg),("size",sz),("told",td),("figures",fg),("c",cc),("code",co),
  ("_law_end",.fn 44),("_law_SHORT",.fn 41),("chr",.bi "chr"),("_law_LONG",.fn 42),("len",.bi "len"),("all",.bi "all"),("_law_HEX",.fn 43)]
noncomputable abbrev Qk:List V:=[.str "---",.str "..."]
noncomputable abbrev Un:List V:=[.str "",.str " ",.str "\t"]
theorem Pc (l:List Nat):Hx (.str ⟨l.toArray⟩) Qk=some (decide (l=[45,45,45]∨l=[46,46,46])):=by
 have e:=GN ⟨l.toArray⟩ ["---","..."]
 have e2:decide ((⟨l.toArray⟩:Str)∈(["---","..."]:List Str))=decide (l=[45,45,45]∨l=[46,46,46]):=by
  have r:((["---","..."]:List Str))=[⟨[45,45,45].toArray⟩,⟨[46,46,46].toArray⟩]:=by decide+kernel
  rw[r]
  simp[FA]
 rw[e2] at e
 exact e
theorem Wm (l:List Nat):Hx (.str ⟨l.toArray⟩) Un=some (decide (l=[]∨l=[32]∨l=[9])):=by
 have e:=GN ⟨l.toArray⟩ [""," ","\t"]
 have e2:decide ((⟨l.toArray⟩:Str)∈([""," ","\t"]:List Str))=decide (l=[]∨l=[32]∨l=[9]):=by
  have r:(([""," ","\t"]:List Str))=[⟨[].toArray⟩,⟨[32].toArray⟩,⟨[9].toArray⟩]:=by decide+kernel
  rw[r]
  simp[FA]
 rw[e2] at e
 exact e
section
variable {ns:List Int}{d:Nat}{a0:O}{hs:List O}{B u:List Nat}{p ri ei hd:Nat}{cl go:Bool}{sg sz td fg cc co:V}
theorem aT (t:Tx B p u)(h1:Az sg=true)(h2:Az sz=true):∃hs',B5 hs hs'∧CR (S ns) (d+3) (NA.take 2) ⟨BQ B ri ei hd p cl go sg sz td fg cc co,a0::hs⟩ .next ⟨BQ B ri ei hd p cl go (.str ⟨(u.take 1).toArray⟩) (.int (endN u:Int)) td fg cc co,a0::hs'⟩:=by
 have hz:=t.z
 refine AA (I9 (ns:=ns) (d:=d) (a0:=a0) (hs:=hs) t) fun hs' e=>⟨hs',e.1,?_⟩
 have e:=e.2
 rw[←t.sl 1]
 exact CR.by [.t,.v .nat (min p (A9 B)),.v .nat (min (p+1) (A9 B)),.t,.c (V.int (↑(endN u):Int)) (a0::hs'),.t] (an (At (n:=A9 B) (h:=hz)) (an (Aw (n:=A9 B) (k:=p) (d:=0)) (an (Aw (n:=A9 B) (k:=p+1) (d:=A9 B)) (an (B8 (u:=sg) (v:=V.str (Str.mk (AE (Ad (C5 (AE B)) (min p (A9 B)) (min (p+1) (A9 B)))))) (h:=h1) (h2:=(by rfl))) (an e (an (B8 (u:=sz) (v:=V.int (↑(endN u):Int)) (h:=h2) (h2:=(by rfl))) trivial)))))) (by kernel_rfl)
theorem Xu (hne:p≠hd):HX (S ns) 39 (d+3) T0 ⟨BQ B ri ei hd p cl go sg sz td fg cc co,a0::hs⟩ false ⟨BQ B ri ei hd p cl go sg sz td fg cc co,a0::hs⟩:=by
 have q:decide ((p:Int)=(hd:Int))=false:=decide_eq_false (by lia)
 exact HX.by [.f] (an q trivial) (by kernel_rfl)
theorem Xt (t:Tx B p u)(h3:u.take 3≠[45,45,45]∧u.take 3≠[46,46,46]):HX (S ns) 39 (d+3) T0 ⟨BQ B ri ei p p cl go sg sz td fg cc co,a0::hs⟩ false ⟨BQ B ri ei p p cl go sg sz td fg cc co,a0::(hs++[.list Qk])⟩:=by
 have hz:=t.z
 have q:decide ((p:Int)=(p:Int))=true:=decide_eq_true rfl
 have k:=Pc (Ad B (min p B.length) (min (p+3) B.length))
 rw[t.sl 3,decide_eq_false (fun z=>z.elim h3.1 h3.2),←t.sl 3] at k
 exact HX.by [.t,.t,.v .nat (min p (A9 B)),.v .nat (min (p+3) (A9 B)),.v .ob (O.list [V.str (A8 "---"),V.str (A8 "...")]),.v .bool (false),.a 1] (an q (an (At (n:=A9 B) (h:=hz)) (an (Aw (n:=A9 B) (k:=p) (d:=0)) (an (Aw (n:=A9 B) (k:=p+3) (d:=A9 B)) (an (ga (l:=hs) (o:=O.list [V.str (A8 "---"),V.str (A8 "...")]) (r:=[])) (an k trivial)))))) (by kernel_rfl)
noncomputable def MM:List Nat→Bool
 |[]=>true
 |c::_=>decide (c∈N8)
theorem S6 {r:List Nat}{k:Nat}(hk:k=45∨k=46)(t:Tx B p (k::k::k::r)):∃hs',B5 hs hs'∧HX (S ns) 39 (d+3) T0 ⟨BQ B ri ei p p cl go sg sz td fg cc co,a0::hs⟩ (MM r) ⟨BQ B ri ei p p cl go sg sz td fg cc co,a0::hs'⟩:=by
 have hz:=t.z
 have q:decide ((p:Int)=(p:Int))=true:=decide_eq_true rfl
 have k1:=Pc (Ad B (min p B.length) (min (p+3) B.length))
 rw[t.sl 3,decide_eq_true (show Ab 3 (k::k::k::r)=[45,45,45]∨Ab 3 (k::k::k::r)=[46,46,46] by rcases hk with rfl|rfl<;>simp),←t.sl 3] at k1
 have t3:Tx B (p+3) r:=t.skip (x:=[k,k,k])
 have s1:Ad B (min (p+3) B.length) (min (p+4) B.length)=r.take 1:=t3.sl 1
 have k2:=Wm (Ad B (min (p+3) B.length) (min (p+4) B.length))
 rw[s1] at k2
 have x2:B5 hs (hs++[O.list Qk]++[O.list Un]):=(B5.app hs).trans (B5.app _)
 rcases r with _|⟨c,r⟩
 ·
  rw[decide_eq_true (.inl rfl),←s1] at k2
  refine⟨_,x2,?_⟩
  show HX _ _ _ _ _ true _
  exact HX.by [.t,.t,.v .nat (min p (A9 B)),.v .nat (min (p+3) (A9 B)),.v .ob (O.list [V.str (A8 "---"),V.str (A8 "...")]),.v .bool (true),.a 1,.t,.v .nat (min (p+3) (A9 B)),.v .nat (min (p+4) (A9 B)),.v .ob (O.list [V.str (A8 ""),V.str (A8 " "),V.str (A8 "\t")]),.v .bool (true),.a 2] (an q (an (At (n:=A9 B) (h:=hz)) (an (Aw (n:=A9 B) (k:=p) (d:=0)) (an (Aw (n:=A9 B) (k:=p+3) (d:=A9 B)) (an (ga (l:=hs) (o:=O.list [V.str (A8 "---"),V.str (A8 "...")]) (r:=[])) (an k1 (an (At (n:=A9 B) (h:=hz)) (an (Aw (n:=A9 B) (k:=p+3) (d:=0)) (an (Aw (n:=A9 B) (k:=p+4) (d:=A9 B)) (an (ga (l:=hs++[O.list [V.str (A8 "---"),V.str (A8 "...")]]) (o:=O.list [V.str (A8 ""),V.str (A8 " "),V.str (A8 "\t")]) (r:=[])) (an k2 trivial))))))))))) (by kernel_rfl)
 ·
  by_cases hc:c∈[32,9]
  ·have hb:[c]=[]∨[c]=[32]∨[c]=[9]:=by
    simp only[AZ,BH,or_false] at hc
    rcases hc with rfl|rfl<;>simp
   rw[decide_eq_true (show(c::r).take 1=[]∨(c::r).take 1=[32]∨(c::r).take 1=[9] from hb),←s1] at k2
   refine⟨_,x2,?_⟩
   rw[show MM (c::r)=true from decide_eq_true ((show ∀z∈[32,9],z∈N8 by decide) c hc)]
   exact HX.by [.t,.t,.v .nat (min p (A9 B)),.v .nat (min (p+3) (A9 B)),.v .ob (O.list [V.str (A8 "---"),V.str (A8 "...")]),.v .bool (true),.a 1,.t,.v .nat (min (p+3) (A9 B)),.v .nat (min (p+4) (A9 B)),.v .ob (O.list [V.str (A8 ""),V.str (A8 " "),V.str (A8 "\t")]),.v .bool (true),.a 2] (an q (an (At (n:=A9 B) (h:=hz)) (an (Aw (n:=A9 B) (k:=p) (d:=0)) (an (Aw (n:=A9 B) (k:=p+3) (d:=A9 B)) (an (ga (l:=hs) (o:=O.list [V.str (A8 "---"),V.str (A8 "...")]) (r:=[])) (an k1 (an (At (n:=A9 B) (h:=hz)) (an (Aw (n:=A9 B) (k:=p+3) (d:=0)) (an (Aw (n:=A9 B) (k:=p+4) (d:=A9 B)) (an (ga (l:=hs++[O.list [V.str (A8 "---"),V.str (A8 "...")]]) (o:=O.list [V.str (A8 ""),V.str (A8 " "),V.str (A8 "\t")]) (r:=[])) (an k2 trivial))))))))))) (by kernel_rfl)
  ·have hb:¬([c]=[]∨[c]=[32]∨[c]=[9]):=by
    simp only[AZ,BH,or_false,not_or] at hc
    simp[hc]
   rw[decide_eq_false (show ¬((c::r).take 1=[]∨(c::r).take 1=[32]∨(c::r).take 1=[9]) from hb),←s1] at k2
   refine AA (I9 (ns:=ns) (d:=d) (a0:=a0) (hs:=hs++[O.list Qk]++[O.list Un]) t3) fun hs' e=>⟨hs',x2.trans e.1,?_⟩
   have e:=e.2
   have eb:MM (c::r)=decide (0<(endN (c::r):Int)):=by
    show decide (c∈N8)=_
    have hs:c∈N8↔c∈BRK:=by
     exact⟨fun z=>(AZ.mp z).elim (fun e=>absurd (e▸ .head _) hc) fun z=>(AZ.mp z).elim (fun e=>absurd (e▸ .tail _ (.head _)) hc) id,fun z=>.tail _ (.tail _ z)⟩
    by_cases q13:∃w,c::r=13::10::w
    ·refine Do (q13) fun w ew=>?_
     rw[ew]
     injection ew with e1 e2
     rw[e1];rfl
    ·rw[Ga fun w e=>q13 ⟨w,e⟩]
     by_cases hbk:c∈BRK
     ·rw[if_pos hbk,decide_eq_true (hs.mpr hbk)];rfl
     ·rw[if_neg hbk,decide_eq_false (fun z=>hbk (hs.mp z))];rfl
   rw[eb]
   rcases hq:decide (0<(endN (c::r):Int)) with _|_
   ·
    exact HX.by [.t,.t,.v .nat (min p (A9 B)),.v .nat (min (p+3) (A9 B)),.v .ob (O.list [V.str (A8 "---"),V.str (A8 "...")]),.v .bool (true),.a 1,.t,.v .nat (min (p+3) (A9 B)),.v .nat (min (p+4) (A9 B)),.v .ob (O.list [V.str (A8 ""),V.str (A8 " "),V.str (A8 "\t")]),.v .bool (false),.a 1,.c (V.int (↑(endN (c::r)):Int)) (a0::hs'),.f,.a 1] (an q (an (At (n:=A9 B) (h:=hz)) (an (Aw (n:=A9 B) (k:=p) (d:=0)) (an (Aw (n:=A9 B) (k:=p+3) (d:=A9 B)) (an (ga (l:=hs) (o:=O.list [V.str (A8 "---"),V.str (A8 "...")]) (r:=[])) (an k1 (an (At (n:=A9 B) (h:=hz)) (an (Aw (n:=A9 B) (k:=p+3) (d:=0)) (an (Aw (n:=A9 B) (k:=p+4) (d:=A9 B)) (an (ga (l:=hs++[O.list [V.str (A8 "---"),V.str (A8 "...")]]) (o:=O.list [V.str (A8 ""),V.str (A8 " "),V.str (A8 "\t")]) (r:=[])) (an k2 (an e (an hq trivial))))))))))))) (by kernel_rfl)
   ·
    exact HX.by [.t,.t,.v .nat (min p (A9 B)),.v .nat (min (p+3) (A9 B)),.v .ob (O.list [V.str (A8 "---"),V.str (A8 "...")]),.v .bool (true),.a 1,.t,.v .nat (min (p+3) (A9 B)),.v .nat (min (p+4) (A9 B)),.v .ob (O.list [V.str (A8 ""),V.str (A8 " "),V.str (A8 "\t")]),.v .bool (false),.a 1,.c (V.int (↑(endN (c::r)):Int)) (a0::hs'),.t,.a 1] (an q (an (At (n:=A9 B) (h:=hz)) (an (Aw (n:=A9 B) (k:=p) (d:=0)) (an (Aw (n:=A9 B) (k:=p+3) (d:=A9 B)) (an (ga (l:=hs) (o:=O.list [V.str (A8 "---"),V.str (A8 "...")]) (r:=[])) (an k1 (an (At (n:=A9 B) (h:=hz)) (an (Aw (n:=A9 B) (k:=p+3) (d:=0)) (an (Aw (n:=A9 B) (k:=p+4) (d:=A9 B)) (an (ga (l:=hs++[O.list [V.str (A8 "---"),V.str (A8 "...")]]) (o:=O.list [V.str (A8 ""),V.str (A8 " "),V.str (A8 "\t")]) (r:=[])) (an k2 (an e (an hq trivial))))))))))))) (by kernel_rfl)
end
noncomputable def IY:Stmt:=Bv (wE OL) 0
noncomputable def Av (p:Nat×Bool):V:=.tup [Ai p.1,.bool p.2]
noncomputable abbrev Sp:List V:=[.str "\u2028",.str "\u2029"]
noncomputable abbrev Vg:List V:=[.str " ",.str "\t"]
theorem ZQ (c:Nat):Hx (.str ⟨#[c]⟩) Sp=some (decide (c∈[8232,8233])):=by
 have e:=GN ⟨#[c]⟩ ["\u2028","\u2029"]
 have e2:decide ((⟨#[c]⟩:Str)∈(["\u2028","\u2029"]:List Str))=decide (c∈[8232,8233]):=by
  have r:((["\u2028","\u2029"]:List Str))=[⟨#[8232]⟩,⟨#[8233]⟩]:=by decide+kernel
  rw[r];simp
 rw[e2] at e
 exact e
theorem Z6 (c:Nat):Hx (.str ⟨#[c]⟩) Vg=some (decide (c∈[32,9])):=by
 have e:=GN ⟨#[c]⟩ [" ","\t"]
 have e2:decide ((⟨#[c]⟩:Str)∈([" ","\t"]:List Str))=decide (c∈[32,9]):=by
  have r:(([" ","\t"]:List Str))=[⟨#[32]⟩,⟨#[9]⟩]:=by decide+kernel
  rw[r];simp
 rw[e2] at e
 exact e
theorem Hc {c:Nat}:decide ((⟨#[c]⟩:Str)=A8 "")=false:=Ju (l:=[c]) (L:=[]) (by decide) (fun z=>nomatch z)
theorem Zg:decide ((⟨#[]⟩:Str)=A8 "")=true:=by decide+kernel
theorem LC {n:Nat}(h:n+1≤lim):DV (-1) (n+1)=some n:=by
 have h':n+1≤1000000:=h
 unfold DV
 rw[if_pos h',if_neg (by decide),if_pos (by lia)]
 exact congrArg some (by lia)
section
variable {ns:List Int}{d:Nat}{a0:O}{hs:List O}{B:List Nat}{p ri ei hd:Nat}{cl go:Bool}{td fg cc co:V}
theorem Zk:Ca (S ns) 39 (d+3) [IY] ⟨BQ B ri ei hd p cl go (.str ⟨#[]⟩) (.int 0) td fg cc co,a0::hs⟩ .next ⟨BQ B ri ei hd p cl false (.str ⟨#[]⟩) (.int 0) td fg cc co,a0::hs⟩:=by
 have q:=Zg
 exact Ca.by [.a 2] trivial (by kernel_rfl)
theorem Wh:Ca (S ns) 39 (d+3) [IY] ⟨BQ B ri ei hd p cl go (.str ⟨#[34]⟩) (.int 0) td fg cc co,a0::hs⟩ .next ⟨BQ B ri ei hd (p+1) true false (.str ⟨#[34]⟩) (.int 0) td fg cc co,a0::hs⟩:=by
 have q:=Hc (c:=34)
 exact Ca.by [.a 5] trivial (by kernel_rfl)
theorem Zl {c k:Nat}{X es:List V}{l:Str}(hc:c∈BRK)(hl:l=if c∈[8232,8233] then⟨#[c]⟩ else A8 "\n")(hk:0<k)(hr:hs[ri]? =some (.list X))(he:hs[ei]? =some (.list es))(h1:BF X.length=true)(h2:BF es.length=true)(hne:ei≠ri):
  Ca (S ns) 39 (d+3) [IY] ⟨BQ B ri ei hd p cl go (.str ⟨#[c]⟩) (.int (k:Int)) td fg cc co,a0::hs⟩ .next
   ⟨BQ B ri ei (p+k) (p+k) cl go (.str ⟨#[c]⟩) (.int (k:Int)) td fg cc co,a0::(((hs++[O.list Sp]).set ei (O.list (es++[V.str l]))++[O.list []]).set ri (O.list (X++[V.obj (((hs++[O.list Sp]).set ei (O.list (es++[V.str l]))).length+1)])))⟩:=by
 have q:=Hc (c:=c)
 have q2:c≠34:=fun e=>absurd (e▸hc) (by decide)
 have q3:decide ((0:Int)<(k:Int))=true:=decide_eq_true (by lia)
 have k1:=ZQ c
 subst hl
 by_cases w:c∈[8232,8233]
 ·rw[decide_eq_true w] at k1
  rw[if_pos w]
  exact Ca.by [.f,.f,.t,.v .ob (O.list es),.v .ob (O.list [V.str (A8 " "),V.str (A8 " ")]),.v .bool (true),.a 1,.v .ob (O.list es),.t,.v .ob (O.list X),.v .ob (O.list X),.t,.a 2] (an q (an (QV (c:=c) (h:=q2)) (an q3 (an he (an (ga (l:=hs) (o:=O.list [V.str (A8 " "),V.str (A8 " ")]) (r:=[])) (an k1 (an (gl (r:=[O.list [V.str (A8 " "),V.str (A8 " ")]]) he) (an h2 (an (gn (m:=ei) (o':=O.list (es++[V.str (Str.mk #[c])])) hne (gl (r:=[O.list [V.str (A8 " "),V.str (A8 " ")]]) hr)) (an (gl (r:=[O.list []]) (gn (m:=ei) (o':=O.list (es++[V.str (Str.mk #[c])])) hne (gl (r:=[O.list [V.str (A8 " "),V.str (A8 " ")]]) hr))) (an h1 trivial))))))))))) (by kernel_rfl)
 ·rw[decide_eq_false w] at k1
  rw[if_neg w]
  exact Ca.by [.f,.f,.t,.v .ob (O.list es),.v .ob (O.list [V.str (A8 " "),V.str (A8 " ")]),.v .bool (false),.a 1,.v .ob (O.list es),.t,.v .ob (O.list X),.v .ob (O.list X),.t,.a 2] (an q (an (QV (c:=c) (h:=q2)) (an q3 (an he (an (ga (l:=hs) (o:=O.list [V.str (A8 " "),V.str (A8 " ")]) (r:=[])) (an k1 (an (gl (r:=[O.list [V.str (A8 " "),V.str (A8 " ")]]) he) (an h2 (an (gn (m:=ei) (o':=O.list (es++[V.str (A8 "\n")])) hne (gl (r:=[O.list [V.str (A8 " "),V.str (A8 " ")]]) hr)) (an (gl (r:=[O.list []]) (gn (m:=ei) (o':=O.list (es++[V.str (A8 "\n")])) hne (gl (r:=[O.list [V.str (A8 " "),V.str (A8 " ")]]) hr))) (an h1 trivial))))))))))) (by kernel_rfl)
theorem YE {c i n:Nat}{X:List V}{row:Ax}(h34:c≠34)(h92:c≠92)(hr:hs[ri]? =some (.list (X++[.obj (i+1)])))(hi:hs[i]? =some (.list (row.map Av)))(hX:(X++[V.obj (i+1)]).length=n+1)(hXn:(X++[V.obj (i+1)])[n]? =some (.obj (i+1)))(hn:n+1≤lim)(h2:BF (row.map Av).length=true):
  Ca (S ns) 39 (d+3) [IY] ⟨BQ B ri ei hd p cl go (.str ⟨#[c]⟩) (.int 0) td fg cc co,a0::hs⟩ .next
   ⟨BQ B ri ei hd (p+1) cl go (.str ⟨#[c]⟩) (.int 0) td fg cc co,a0::((hs++[O.list Vg]).set i (O.list (row.map Av++[Av (c,decide (c∉[32,9]))])))⟩:=by
 have q:=Hc (c:=c)
 have k1:=Z6 c
 have k2:=LC hn
 rw[←hX] at k2
 by_cases w:c∈[32,9]
 ·rw[decide_eq_true w] at k1
  rw[decide_eq_false (fun z=>z w)]
  exact Ca.by [.f,.f,.a 1,.t,.v .ob (O.list (X++[V.obj (i+1)])),.v .nat (n),.v .val (V.obj (i+1)),.v .ob (O.list (AC Av row)),.v .ob (O.list [V.str (A8 " "),V.str (A8 "\t")]),.v .bool (true),.v .ob (O.list (AC Av row)),.t,.a 1] (an q (an (QV (c:=c) (h:=h34)) (an (congrArg not (Ua (c:=c) (h:=h92))) (an hr (an k2 (an hXn (an hi (an (ga (l:=hs) (o:=O.list [V.str (A8 " "),V.str (A8 "\t")]) (r:=[])) (an k1 (an (gl (r:=[O.list [V.str (A8 " "),V.str (A8 "\t")]]) hi) (an h2 trivial))))))))))) (by kernel_rfl)
 ·rw[decide_eq_false w] at k1
  rw[decide_eq_true w]
  exact Ca.by [.f,.f,.a 1,.t,.v .ob (O.list (X++[V.obj (i+1)])),.v .nat (n),.v .val (V.obj (i+1)),.v .ob (O.list (AC Av row)),.v .ob (O.list [V.str (A8 " "),V.str (A8 "\t")]),.v .bool (false),.v .ob (O.list (AC Av row)),.t,.a 1] (an q (an (QV (c:=c) (h:=h34)) (an (congrArg not (Ua (c:=c) (h:=h92))) (an hr (an k2 (an hXn (an hi (an (ga (l:=hs) (o:=O.list [V.str (A8 " "),V.str (A8 "\t")]) (r:=[])) (an k1 (an (gl (r:=[O.list [V.str (A8 " "),V.str (A8 "\t")]]) hi) (an h2 trivial))))))))))) (by kernel_rfl)
end
section
variable {ns:List Int}{d:Nat}{a0:O}{hs:List O}{B u:List Nat}{p ri ei hd:Nat}{cl go:Bool}{td fg cc co:V}
theorem VC {k:Nat}(h:0<k):decide ((0:Int)<(k:Int))=true:=decide_eq_true (by lia)
theorem YF {X es:List V}(t:Tx B (p+1) u)(hk:0<endN u)(ht:Az td=true)(hr:hs[ri]? =some (.list X))(he:hs[ei]? =some (.list es))(h1:BF X.length=true)(h2:BF es.length=true)(hne:ei≠ri):
  ∃hs1,B5 hs hs1∧Ca (S ns) 39 (d+3) [IY] ⟨BQ B ri ei hd p cl go (.str ⟨#[92]⟩) (.int 0) td fg cc co,a0::hs⟩ .next
   ⟨BQ B ri ei (p+1+endN u) (p+1+endN u) cl go (.str ⟨#[92]⟩) (.int (endN u:Int)) (.str ⟨(u.take 1).toArray⟩) fg cc co,a0::((hs1.set ei (O.list (es++[V.str (A8 "")]))++[O.list []]).set ri (O.list (X++[V.obj ((hs1.set ei (O.list (es++[V.str (A8 "")]))).length+1)])))⟩:=by
 have hz:=t.z
 have q:=Hc (c:=92)
 refine AA (I9 (ns:=ns) (d:=d) (a0:=a0) (hs:=hs) t) fun hs1 e=>⟨hs1,e.1,?_⟩
 have hr1:=e.1.get hr
 have he1:=e.1.get he
 have e2:=e.2
 have q3:=VC hk
 rw[←t.sl 1]
 exact Ca.by [.a 5,.t,.v .nat (min (p+1) (A9 B)),.v .nat (min (p+1+1) (A9 B)),.t,.c (V.int (↑(endN u):Int)) (a0::hs1),.a 1,.t,.v .ob (O.list es),.v .ob (O.list es),.t,.v .ob (O.list X),.v .ob (O.list X),.t,.a 2] (an (At (n:=A9 B) (h:=hz)) (an (Aw (n:=A9 B) (k:=p+1) (d:=0)) (an (Aw (n:=A9 B) (k:=p+1+1) (d:=A9 B)) (an (B8 (u:=td) (v:=V.str (Str.mk (AE (Ad (C5 (AE B)) (min (p+1) (A9 B)) (min (p+1+1) (A9 B)))))) (h:=ht) (h2:=(by rfl))) (an e2 (an q3 (an he1 (an he1 (an h2 (an (gn (m:=ei) (o':=O.list (es++[V.str (A8 "")])) hne hr1) (an (gl (r:=[O.list []]) (gn (m:=ei) (o':=O.list (es++[V.str (A8 "")])) hne hr1)) (an h1 trivial)))))))))))) (by kernel_rfl)
theorem Zj {e v i n:Nat}{X:List V}{row:Ax}(t:Tx B (p+1) (e::u))(he:esc e=some v)(hv:v<1114112)(ht:Az td=true)(hr:hs[ri]? =some (.list (X++[.obj (i+1)])))(hi:hs[i]? =some (.list (row.map Av)))(hX:(X++[V.obj (i+1)]).length=n+1)(hXn:(X++[V.obj (i+1)])[n]? =some (.obj (i+1)))(hn:n+1≤lim)(h2:BF (row.map Av).length=true):
  ∃hs1,B5 hs hs1∧Ca (S ns) 39 (d+3) [IY] ⟨BQ B ri ei hd p cl go (.str ⟨#[92]⟩) (.int 0) td fg cc co,a0::hs⟩ .next
   ⟨BQ B ri ei hd (p+2) cl go (.str ⟨#[92]⟩) (.int 0) (.str ⟨#[e]⟩) fg cc co,a0::(hs1.set i (O.list (row.map Av++[Av (v,true)])))⟩:=by
 have hz:=t.z
 have q:=Hc (c:=92)
 have hb:e∉BRK:=fun z=>by rw[(GR z).1] at he;cases he
 have h0:endN (e::u)=0:=by rw[Ga (fun r z=>hb (by rw[(Bj z).1];decide)),if_neg hb]
 refine AA (I9 (ns:=ns) (d:=d) (a0:=a0) (hs:=hs) t) fun hs1 e1=>⟨(hs1++[O.sdict (AW Ah)])++[O.sdict (AW Ah)],(e1.1.trans (B5.app hs1)).trans (B5.app _),?_⟩
 have hr1:=e1.1.get hr
 have hi1:=e1.1.get hi
 have e2:=e1.2
 rw[h0] at e2
 have e2:AN (S ns) (d+2) 44 [.str ⟨B.toArray⟩,.int ((p+1:Nat):Int)] [] (a0::hs) (.int 0) (a0::hs1):=e2
 have k2:=LC hn
 rw[←hX] at k2
 have s1:Ad B (min (p+1) B.length) (min (p+2) B.length)=[e]:=t.sl 1
 have k3:=EP e (L:=Ah) rfl
 rw[I0,he] at k3
 have k3:CW (.str ⟨#[e]⟩) (AW Ah)=some (some (.int (v:Int))):=k3
 have k4:decide ((0:Int)≤(v:Int)∧(v:Int)<1114112)=true:=decide_eq_true ⟨Ck _,Ff.mpr hv⟩
 rw[show(#[e]:Array Nat)=[e].toArray from rfl,←s1] at k3 ⊢
 exact Ca.by [.a 5,.t,.v .nat (min (p+1) (A9 B)),.v .nat (min (p+1+1) (A9 B)),.t,.c (V.int 0) (a0::hs1),.a 2,.c (V.obj (A9 hs1+1)) (a0::(hs1++[O.sdict (AW Ah)])),.v .ob (O.sdict (AW Ah)),.v .oval (some (V.int (↑v:Int))),.a 1,.v .ob (O.list (X++[V.obj (i+1)])),.v .nat (n),.v .val (V.obj (i+1)),.v .ob (O.list (AC Av row)),.c (V.obj (A9 (hs1++[O.sdict (AW Ah)])+1)) (a0::(hs1++[O.sdict (AW Ah)]++[O.sdict (AW Ah)])),.v .ob (O.sdict (AW Ah)),.v .oval (some (V.int (↑v:Int))),.a 1,.t,.v .ob (O.list (AC Av row)),.t,.a 1] (an (At (n:=A9 B) (h:=hz)) (an (Aw (n:=A9 B) (k:=p+1) (d:=0)) (an (Aw (n:=A9 B) (k:=p+1+1) (d:=A9 B)) (an (B8 (u:=td) (v:=V.str (Str.mk (AE (Ad (C5 (AE B)) (min (p+1) (A9 B)) (min (p+1+1) (A9 B)))))) (h:=ht) (h2:=(by rfl))) (an e2 (an (Gs (ns:=ns) (d:=d+1) (a0:=a0) (hs:=hs1)) (an (ga (l:=hs1) (o:=O.sdict (AW Ah)) (r:=[])) (an k3 (an (gl (r:=[O.sdict (AW Ah)]) hr1) (an k2 (an hXn (an (gl (r:=[O.sdict (AW Ah)]) hi1) (an (Gs (ns:=ns) (d:=d+1) (a0:=a0) (hs:=hs1++[O.sdict (AW Ah)])) (an (ga (l:=hs1++[O.sdict (AW Ah)]) (o:=O.sdict (AW Ah)) (r:=[])) (an k3 (an k4 (an (gl (r:=[O.sdict (AW Ah)]) (gl (r:=[O.sdict (AW Ah)]) hi1)) (an h2 trivial)))))))))))))))))) (by kernel_rfl)
theorem YD (t:Tx B (p+1) [])(ht:Az td=true):
  ∃hs1,B5 hs hs1∧Ca (S ns) 39 (d+3) [IY] ⟨BQ B ri ei hd p cl go (.str ⟨#[92]⟩) (.int 0) td fg cc co,a0::hs⟩ .next
   ⟨BQ B ri ei hd (p+1) cl false (.str ⟨#[92]⟩) (.int 0) (.str ⟨(Ad B (min (p+1) B.length) (min (p+2) B.length)).toArray⟩) fg cc co,a0::hs1⟩:=by
 have hz:=t.z
 have q:=Hc (c:=92)
 refine AA (I9 (ns:=ns) (d:=d) (a0:=a0) (hs:=hs) t) fun hs1 e1=>⟨(hs1++[O.sdict (AW Ah)])++[O.sdict (AW Ao)],(e1.1.trans (B5.app hs1)).trans (B5.app _),?_⟩
 have e2:AN (S ns) (d+2) 44 [.str ⟨B.toArray⟩,.int ((p+1:Nat):Int)] [] (a0::hs) (.int 0) (a0::hs1):=e1.2
 have s1:Ad B (min (p+1) B.length) (min (p+2) B.length)=[]:=t.sl 1
 have k3:CW (.str ⟨(Ad B (min (p+1) B.length) (min (p+2) B.length)).toArray⟩) (AW Ah)=some none:=by rw[s1];exact Mq rfl
 have k4:CW (.str ⟨(Ad B (min (p+1) B.length) (min (p+2) B.length)).toArray⟩) (AW Ao)=some none:=by rw[s1];exact Mq rfl
 exact Ca.by [.a 5,.t,.v .nat (min (p+1) (A9 B)),.v .nat (min (p+1+1) (A9 B)),.t,.c (V.int 0) (a0::hs1),.a 2,.c (V.obj (A9 hs1+1)) (a0::(hs1++[O.sdict (AW Ah)])),.v .ob (O.sdict (AW Ah)),.v .oval (none),.a 1,.c (V.obj (A9 (hs1++[O.sdict (AW Ah)])+1)) (a0::(hs1++[O.sdict (AW Ah)]++[O.sdict (AW Ao)])),.v .ob (O.sdict (AW Ao)),.v .oval (none),.a 2] (an (At (n:=A9 B) (h:=hz)) (an (Aw (n:=A9 B) (k:=p+1) (d:=0)) (an (Aw (n:=A9 B) (k:=p+1+1) (d:=A9 B)) (an (B8 (u:=td) (v:=V.str (Str.mk (AE (Ad (C5 (AE B)) (min (p+1) (A9 B)) (min (p+1+1) (A9 B)))))) (h:=ht) (h2:=(by rfl))) (an e2 (an (Gs (ns:=ns) (d:=d+1) (a0:=a0) (hs:=hs1)) (an (ga (l:=hs1) (o:=O.sdict (AW Ah)) (r:=[])) (an k3 (an (FX (ns:=ns) (d:=d+1) (a0:=a0) (hs:=hs1++[O.sdict (AW Ah)])) (an (ga (l:=hs1++[O.sdict (AW Ah)]) (o:=O.sdict (AW Ao)) (r:=[])) (an k4 trivial))))))))))) (by kernel_rfl)
theorem Zi {e:Nat}(t:Tx B (p+1) (e::u))(he:esc e=none)(hc:Cz e=none)(hb:e∉BRK)(ht:Az td=true):
  ∃hs1,B5 hs hs1∧Ca (S ns) 39 (d+3) [IY] ⟨BQ B ri ei hd p cl go (.str ⟨#[92]⟩) (.int 0) td fg cc co,a0::hs⟩ .next
   ⟨BQ B ri ei hd (p+1) cl false (.str ⟨#[92]⟩) (.int 0) (.str ⟨[e].toArray⟩) fg cc co,a0::hs1⟩:=by
 have hz:=t.z
 have q:=Hc (c:=92)
 have h0:endN (e::u)=0:=by rw[Ga (fun r z=>hb (by rw[(Bj z).1];decide)),if_neg hb]
 refine AA (I9 (ns:=ns) (d:=d) (a0:=a0) (hs:=hs) t) fun hs1 e1=>⟨(hs1++[O.sdict (AW Ah)])++[O.sdict (AW Ao)],(e1.1.trans (B5.app hs1)).trans (B5.app _),?_⟩
 have e2:=e1.2
 rw[h0] at e2
 have e2:AN (S ns) (d+2) 44 [.str ⟨B.toArray⟩,.int ((p+1:Nat):Int)] [] (a0::hs) (.int 0) (a0::hs1):=e2
 have s1:Ad B (min (p+1) B.length) (min (p+2) B.length)=[e]:=t.sl 1
 have k3:=EP e (L:=Ah) rfl
 have k4:=EP e (L:=Ao) rfl
 rw[I0,he] at k3
 have hc':Ao.lookup e=none:=hc
 rw[hc'] at k4
 have k3:CW (.str ⟨#[e]⟩) (AW Ah)=some none:=k3
 have k4:CW (.str ⟨#[e]⟩) (AW Ao)=some none:=k4
 rw[show(#[e]:Array Nat)=[e].toArray from rfl,←s1] at k3 k4
 rw[←s1]
 exact Ca.by [.a 5,.t,.v .nat (min (p+1) (A9 B)),.v .nat (min (p+1+1) (A9 B)),.t,.c (V.int 0) (a0::hs1),.a 2,.c (V.obj (A9 hs1+1)) (a0::(hs1++[O.sdict (AW Ah)])),.v .ob (O.sdict (AW Ah)),.v .oval (none),.a 1,.c (V.obj (A9 (hs1++[O.sdict (AW Ah)])+1)) (a0::(hs1++[O.sdict (AW Ah)]++[O.sdict (AW Ao)])),.v .ob (O.sdict (AW Ao)),.v .oval (none),.a 2] (an (At (n:=A9 B) (h:=hz)) (an (Aw (n:=A9 B) (k:=p+1) (d:=0)) (an (Aw (n:=A9 B) (k:=p+1+1) (d:=A9 B)) (an (B8 (u:=td) (v:=V.str (Str.mk (AE (Ad (C5 (AE B)) (min (p+1) (A9 B)) (min (p+1+1) (A9 B)))))) (h:=ht) (h2:=(by rfl))) (an e2 (an (Gs (ns:=ns) (d:=d+1) (a0:=a0) (hs:=hs1)) (an (ga (l:=hs1) (o:=O.sdict (AW Ah)) (r:=[])) (an k3 (an (FX (ns:=ns) (d:=d+1) (a0:=a0) (hs:=hs1++[O.sdict (AW Ah)])) (an (ga (l:=hs1++[O.sdict (AW Ah)]) (o:=O.sdict (AW Ao)) (r:=[])) (an k4 trivial))))))))))) (by kernel_rfl)
end
noncomputable def Zh:List Stmt:=wE (Bv (wE (Bv (wE (Bv (wE IY) 0)) 0)) 0)
noncomputable def Xb:Stmt:=Bv (wE (Bv (wE (Bv Zh 3)) 0)) 0
noncomputable def LM:Stmt:=Bv (wB Xb) 2
noncomputable def NS:Stmt:=Bv (wB LM) 1
set_option backward.match.sparseCases false in
noncomputable def LX:Expr→Expr
 | .BoolOp _ [_,.Call _ [x] _ _] _=>x
 |e=>e
set_option backward.match.sparseCases false in
noncomputable def IA:Expr→Expr
 | .ListComp e _ _ _=>e
 |e=>e
noncomputable def Hy:Expr→Expr
 | .ListComp _ [⟨t,_,_,_⟩] _ _=>t
 |e=>e
noncomputable abbrev QJ (v:V):List (Str×V):=[(".0",.undef),("c",v),("_law_HEX",.fn 43)]
noncomputable abbrev FS (c:Nat):Bool:=decide (c∈HEX)
theorem WU (c:Nat):(EC c).isSome=FS c:=by
 by_cases hc:c<128
 ·exact(by decide+kernel:∀c,c<128→(EC c).isSome=FS c) c hc
 ·rw[MH hc]
  exact(decide_eq_false fun z=>hc ((by decide:∀y∈HEX,y<128) c z)).symm
noncomputable def MG (c:Nat):Option V:=(EC c).map fun v:Nat=>V.int (v:Int)
theorem U6 (c:Nat):(EC c).isSome=(MG c).isSome:=by
 unfold MG
 cases EC c<;>rfl
theorem V8 (pre:List Nat):some ((((⟨(pre++[]).toArray⟩:Str).cps[pre.length]?).map Ai).map (Fw false pre.length))=some none:=by simp
theorem V7 (pre:List Nat)(c:Nat)(suf:List Nat):some ((((⟨(pre++c::suf).toArray⟩:Str).cps[pre.length]?).map Ai).map (Fw false pre.length))=some (some (Ai c)):=by simp;rfl
section
variable {ns:List Int}{a0:O}{B:List Nat}{p ri ei hd:Nat}{cl go:Bool}{sg sz td fg cc co:V}
theorem Xq {i:Nat}:∀{suf pre:List Nat} {hs:List O} {v:V} {bs:List Bool},Az v=true→hs[i]? =some (.list (bs.map .bool))→bs.length+suf.length≤lim→
  ∃v' hs',hs'[i]? =some (.list ((bs++suf.map FS).map .bool))∧CY i hs hs'∧Ea (S ns) 15 (IA (LX (wT LM))) (Hy (LX (wT LM))) [] (.str ⟨(pre++suf).toArray⟩ false) pre.length (i+1) ⟨QJ v,a0::hs⟩ ⟨QJ v',a0::hs'⟩:=by
 intro suf
 induction suf with
 |nil=>
  intro pre hs v bs hv hi hl
  have k:=V8 pre
  refine⟨v,hs,by simpa using hi,CY.refl _ _,?_⟩
  exact Ea.by [.v .oval (none)] (an k trivial) (by kernel_rfl)
 |cons c suf ih=>
  intro pre hs v bs hv hi hl
  have k:=V7 pre c suf
  have k2:=EP c (L:=hexT) rfl
  have ok:BF (bs.map V.bool).length=true:=At (by rw[AH];lia)
  have hi2:((hs++[O.sdict (AW hexT)]).set i (.list (bs.map .bool++[.bool (FS c)])))[i]? =some (.list ((bs++[FS c]).map .bool)):=by rw[Aa];exact gs (gl hi)
  refine AA (ih (pre:=pre++[c]) (v:=Ai c) (bs:=bs++[FS c]) rfl hi2 (by simp only[AF,AQ,BR] at hl ⊢;lia)) fun v' e=>AA e fun hs' e=>?_
  refine⟨v',hs',by rw[An,EH];exact e.1,((B5.app hs).keep.trans (CY.setc _)).trans e.2.1,?_⟩
  have e3:=e.2.2
  rw[←EH,AF (bs:=[c])] at e3
  have e3:Ea (S ns) 15 (IA (LX (wT LM))) (Hy (LX (wT LM))) [] (.str ⟨(pre++c::suf).toArray⟩ false) (pre.length+1) (i+1) _ _:=e3
  rw[←WU,U6] at e3
  rw[PW] at k2
  have k2:CW (Ai c) (AW hexT)=some (MG c):=by unfold MG;exact k2
  refine Ea.go (s1:=St.mk [(A8 ".0",V.undef),(A8 "c",V.str (Str.mk #[c])),(A8 "_law_HEX",V.fn 43)] (a0::Bb (hs++[O.sdict (AW hexT)]) i (O.list (AC V.bool bs++[V.bool (Option.isSome (MG c))])))) [.v .oval (some (Ai c)),.t,.a 1,.c (V.obj (A9 hs+1)) (a0::(hs++[O.sdict (AW hexT)])),.v .ob (O.sdict (AW hexT)),.v .oval (MG c),.v .ob (O.list (AC V.bool bs)),.t] ?_ (an k (an (B8 (u:=v) (v:=Ai c) (h:=hv) (h2:=(by rfl))) (an (VO (ns:=ns) (d:=13) (a0:=a0) (hs:=hs)) (an (ga (l:=hs) (o:=O.sdict (AW hexT)) (r:=[])) (an k2 (an (gl (r:=[O.sdict (AW hexT)]) hi) (an ok trivial))))))) (by kernel_rfl)
  exact e3
end
theorem WS:∀{l:List Nat} {a v:Nat},EB l a=some v→a≤v:=by
 intro l
 induction l with
 |nil=>exact fun h=>Bp (AG h)
 |cons c l ih=>
  intro a v h
  refine AR (Af.mp (show(EC c).bind (fun x=>EB l (a * 16+x))=some v from h)) fun x hx hh=>?_
  have:=ih hh
  lia
section
variable {ns:List Int}{a0:O}{B:List Nat}{p ri ei hd:Nat}{cl go:Bool}{sg sz td fg cc co:V}
theorem bI:∀{suf pre:List Nat} {hs:List O} {cc:V} {a v:Nat},Az cc=true→EB suf a=some v→v<1114112→
  ∃cc' hs',Az cc'=true∧B5 hs hs'∧BK (S ns) 15 (wT NS) (.str ⟨(pre++suf).toArray⟩ false) pre.length (wB NS) ⟨BQ B ri ei hd p cl go sg sz td fg cc (.int (a:Int)),a0::hs⟩ .next ⟨BQ B ri ei hd p cl go sg sz td fg cc' (.int (v:Int)),a0::hs'⟩:=by
 intro suf
 induction suf with
 |nil=>
  intro pre hs cc a v hv hh hb
  have k:=V8 pre
  cases AG hh
  refine⟨cc,hs,hv,B5.refl _,?_⟩
  exact BK.by [.v .oval (none)] (an k trivial) (by kernel_rfl)
 |cons c suf ih=>
  intro pre hs cc a v hv hh hb
  have k:=V7 pre c suf
  refine AR (Af.mp (show(EC c).bind (fun x=>EB suf (a * 16+x))=some v from hh)) fun x hx hh=>?_
  have k2:=EP c (L:=hexT) rfl
  rw[PW,hx] at k2
  have k2:CW (Ai c) (AW hexT)=some (some (.int (x:Int))):=k2
  refine AA (ih (pre:=pre++[c]) (hs:=hs++[O.sdict (AW hexT)]) (cc:=Ai c) (a:=a * 16+x) rfl hh hb) fun cc' e=>AA e fun hs' e=>?_
  refine⟨cc',hs',e.1,(B5.app hs).trans e.2.1,?_⟩
  have e3:=e.2.2
  have le:=WS hh
  have h16:=Fc (Bk le hb) (show 1114112<1073741824 by decide)
  have q1:decide ((a:Int).natAbs<1073741824∧(16:Int).natAbs<1073741824)=true:=decide_eq_true ⟨Bk (AM (Nat.le_mul_of_pos_right a (by decide)) (BM (a * 16) x)) h16,by decide⟩
  have q2:decide (((a:Int) * 16).natAbs<1073741824∧(x:Int).natAbs<1073741824)=true:=decide_eq_true ⟨Bk (BM _ x) h16,Bk (BW x _) h16⟩
  rw[←EH,AF (bs:=[c])] at e3
  have e3:BK (S ns) 15 (wT NS) (.str ⟨(pre++c::suf).toArray⟩ false) (pre.length+1) (wB NS) _ .next _:=e3
  refine BK.go (s1:=St.mk [(A8 "text",V.str (Str.mk (AE B))),(A8 "rows",V.obj (ri+1)),(A8 "ends",V.obj (ei+1)),(A8 "head",V.int (↑hd:Int)),(A8 "at",V.int (↑p:Int)),(A8 "closed",V.bool cl),(A8 "going",V.bool go),(A8 "sign",sg),(A8 "size",sz),(A8 "told",td),(A8 "figures",fg),(A8 "c",V.str (Str.mk #[c])),(A8 "code",V.int (↑(a * 16+x):Int)),(A8 "_law_end",V.fn 44),(A8 "_law_SHORT",V.fn 41),(A8 "chr",V.bi "chr"),(A8 "_law_LONG",V.fn 42),(A8 "len",V.bi "len"),(A8 "all",V.bi "all"),(A8 "_law_HEX",V.fn 43)] (a0::(hs++[O.sdict (AW hexT)]))) [.v .oval (some (Ai c)),.t,.t,.c (V.obj (A9 hs+1)) (a0::(hs++[O.sdict (AW hexT)])),.v .ob (O.sdict (AW hexT)),.v .oval (some (V.int (↑x:Int))),.a 2] ?_ (an k (an (B8 (u:=cc) (v:=Ai c) (h:=hv) (h2:=(by rfl))) (an q1 (an (VO (ns:=ns) (d:=13) (a0:=a0) (hs:=hs)) (an (ga (l:=hs) (o:=O.sdict (AW hexT)) (r:=[])) (an k2 trivial)))))) (by kernel_rfl)
  exact e3
end
theorem Ok:∀l:List Bool,Km (l.map .bool)=some (l.all id):=by
 intro l
 induction l with
 |nil=>rfl
 |cons b l ih=>
  show(Km (l.map .bool)).map (b&&·)=_
  rw[ih];rfl
section
variable {ns:List Int}{a0:O}{hs:List O}{B u:List Nat}{p ri ei hd:Nat}{cl go:Bool}{td fg cc co:V}
theorem YG {e n v i m:Nat}{hx:List Nat}{X:List V}{row:Ax}(t:Tx B (p+1) (e::(hx++u)))(he:Cz e=some n)(hl:hx.length=n)(hh:∀y∈hx,y∈HEX)(hL:EB hx 0=some v)(hv:v<1114112)(ht:Az td=true)(hf:Az fg=true)(hc:Az cc=true)(ho:Az co=true)(hr:hs[ri]? =some (.list (X++[.obj (i+1)])))(hi:hs[i]? =some (.list (row.map Av)))(hX:(X++[V.obj (i+1)]).length=m+1)(hXn:(X++[V.obj (i+1)])[m]? =some (.obj (i+1)))(hn:m+1≤lim)(h2:BF (row.map Av).length=true):
  ∃hs1 cc',Az cc'=true∧B5 hs hs1∧Ca (S ns) 39 15 [IY] ⟨BQ B ri ei hd p cl go (.str ⟨#[92]⟩) (.int 0) td fg cc co,a0::hs⟩ .next
   ⟨BQ B ri ei hd (p+2+hx.length) cl go (.str ⟨#[92]⟩) (.int 0) (.str ⟨[e].toArray⟩) (.str ⟨hx.toArray⟩) cc' (.int (v:Int)),a0::(hs1.set i (O.list (row.map Av++[Av (v,true)])))⟩:=by
 have hz:=t.z
 have q:=Hc (c:=92)
 have hE:esc e=none∧e∉BRK∧n≤8:=⟨(Hk he).1,(fun z=>by rw[(GR z).2] at he;cases he),(Hk he).2.2⟩
 have hb:=hE.2.1
 have h0:endN (e::(hx++u))=0:=by rw[Ga (fun r z=>hb (by rw[(Bj z).1];decide)),if_neg hb]
 refine AA (I9 (ns:=ns) (d:=12) (a0:=a0) (hs:=hs) t) fun hs1 e1=>?_
 have e2:=e1.2
 rw[h0] at e2
 have e2:AN (S ns) 14 44 [.str ⟨B.toArray⟩,.int ((p+1:Nat):Int)] [] (a0::hs) (.int 0) (a0::hs1):=e2
 have s1:Ad B (min (p+1) B.length) (min (p+2) B.length)=[e]:=t.sl 1
 have t2:Tx B (p+2) (hx++u):=t.skip (x:=[e])
 have s2:Ad B (min (p+2) B.length) (min (p+2+n) B.length)=hx:=by rw[t2.sl n,←hl,List.take_left]
 have k3:=EP e (L:=Ah) rfl
 have k4:=EP e (L:=Ao) rfl
 rw[I0,hE.1] at k3
 rw[show Ao.lookup e=some n from he] at k4
 have k3:CW (.str ⟨#[e]⟩) (AW Ah)=some none:=k3
 have k4:CW (.str ⟨#[e]⟩) (AW Ao)=some (some (.int (n:Int))):=k4
 rw[show(#[e]:Array Nat)=[e].toArray from rfl,←s1] at k3 k4
 have hz2:hx.length≤lim:=by rw[hl];exact AM hE.2.2 (by decide)
 have kp:BF (Ad B (min (p+2) B.length) (min (p+2+n) B.length)).length=true:=by rw[s2];exact At hz2
 have kl:decide (((Ad B (min (p+2) B.length) (min (p+2+n) B.length)).length:Int)=(n:Int))=true:=by rw[s2,hl];exact decide_eq_true rfl
 have kd:BF (AC V.bool (AC FS (Ad B (min (p+2) B.length) (min (p+2+n) B.length)))).length=true:=by rw[s2,AH,AH];exact At hz2
 have ke:Km (AC V.bool (AC FS (Ad B (min (p+2) B.length) (min (p+2+n) B.length))))=some true:=by
  rw[s2,Ok]
  refine congrArg some (B1.mpr fun b hb=>?_)
  obtain⟨y,hy,rfl⟩:=Bq.mp hb
  exact decide_eq_true (hh y hy)
 obtain⟨H,hH⟩:∃H,H=((((hs1++[O.sdict (AW Ah)])++[O.sdict (AW Ao)])++[O.sdict (AW Ao)])++[O.sdict (AW Ao)]):=⟨_,rfl⟩
 refine AA (Xq (ns:=ns) (a0:=a0) (i:=H.length) (suf:=hx) (pre:=[]) (hs:=H++[O.list []]) (v:=.undef) (bs:=[]) rfl (by simp) (by rw[BR,CS];exact hz2)) fun v' f=>AA f fun hs2 f=>?_
 have f3:=f.2.2
 have f1:=f.1
 refine AA (bI (ns:=ns) (a0:=a0) (B:=B) (p:=p+2) (ri:=ri) (ei:=ei) (hd:=hd) (cl:=cl) (go:=go) (sg:=.str ⟨#[92]⟩) (sz:=.int 0) (td:=.str ⟨[e].toArray⟩) (fg:=.str ⟨hx.toArray⟩) (suf:=hx) (pre:=[]) (hs:=hs2) (cc:=cc) (a:=0) hc hL hv) fun cc' g=>AA g fun hs3 g=>?_
 have g3:=g.2.2
 have X1:B5 hs H:=by subst hH;exact((((e1.1.trans (B5.app _)).trans (B5.app _)).trans (B5.app _)).trans (B5.app _))
 have X2:B5 hs hs3:=(X1.trans f.2.1.ext).trans g.2.1
 refine⟨hs3,cc',g.1,X2,?_⟩
 have hr3:=X2.get hr
 have hi3:=X2.get hi
 have kb:=LC hn
 rw[←hX] at kb
 have kc:decide ((0:Int)≤(v:Int)∧(v:Int)<1114112)=true:=decide_eq_true ⟨Ck _,Ff.mpr hv⟩
 subst hH
 rw[←s1,←s2] at g3
 rw[←s2] at f3 f1
 rw[←s1,←s2]
 exact Ca.by [.a 5,.t,.v .nat (min (p+1) (A9 B)),.v .nat (min (p+1+1) (A9 B)),.t,.c (V.int 0) (a0::hs1),.a 2,.c (V.obj (A9 hs1+1)) (a0::(hs1++[O.sdict (AW Ah)])),.v .ob (O.sdict (AW Ah)),.v .oval (none),.a 1,.c (V.obj (A9 (hs1++[O.sdict (AW Ah)])+1)) (a0::(hs1++[O.sdict (AW Ah)]++[O.sdict (AW Ao)])),.v .ob (O.sdict (AW Ao)),.v .oval (some (V.int (↑n:Int))),.a 2,.c (V.obj (A9 (hs1++[O.sdict (AW Ah)]++[O.sdict (AW Ao)])+1)) (a0::(hs1++[O.sdict (AW Ah)]++[O.sdict (AW Ao)]++[O.sdict (AW Ao)])),.v .ob (O.sdict (AW Ao)),.v .oval (some (V.int (↑n:Int))),.a 1,.t,.v .nat (min (p+1+1) (A9 B)),.v .nat (min (p+1+1+n) (A9 B)),.t,.t,.c (V.obj (A9 (hs1++[O.sdict (AW Ah)]++[O.sdict (AW Ao)]++[O.sdict (AW Ao)])+1)) (a0::(hs1++[O.sdict (AW Ah)]++[O.sdict (AW Ao)]++[O.sdict (AW Ao)]++[O.sdict (AW Ao)])),.v .ob (O.sdict (AW Ao)),.v .oval (some (V.int (↑n:Int))),.a 1,.t,.m (St.mk (QJ v') (a0::hs2)),.v .ob (O.list (AC V.bool ([]++AC FS (Ad B (min (p+2) (A9 B)) (min (p+2+n) (A9 B)))))),.t,.v .bool (true),.a 2,.t,.w (Fl.next) (St.mk (BQ B ri ei hd (p+2) cl go (V.str (Str.mk #[92])) (V.int 0) (V.str (Str.mk (AE (Ad B (min (p+1) (A9 B)) (min (p+2) (A9 B)))))) (V.str (Str.mk (AE (Ad B (min (p+2) (A9 B)) (min (p+2+n) (A9 B)))))) cc' (V.int (↑v:Int))) (a0::hs3)),.v .ob (O.list (X++[V.obj (i+1)])),.v .nat (m),.v .val (V.obj (i+1)),.v .ob (O.list (AC Av row)),.t,.v .ob (O.list (AC Av row)),.t,.t,.a 1] (an (At (n:=A9 B) (h:=hz)) (an (Aw (n:=A9 B) (k:=p+1) (d:=0)) (an (Aw (n:=A9 B) (k:=p+1+1) (d:=A9 B)) (an (B8 (u:=td) (v:=V.str (Str.mk (AE (Ad (C5 (AE B)) (min (p+1) (A9 B)) (min (p+1+1) (A9 B)))))) (h:=ht) (h2:=(by rfl))) (an e2 (an (Gs (ns:=ns) (d:=13) (a0:=a0) (hs:=hs1)) (an (ga (l:=hs1) (o:=O.sdict (AW Ah)) (r:=[])) (an k3 (an (FX (ns:=ns) (d:=13) (a0:=a0) (hs:=hs1++[O.sdict (AW Ah)])) (an (ga (l:=hs1++[O.sdict (AW Ah)]) (o:=O.sdict (AW Ao)) (r:=[])) (an k4 (an (FX (ns:=ns) (d:=13) (a0:=a0) (hs:=hs1++[O.sdict (AW Ah)]++[O.sdict (AW Ao)])) (an (ga (l:=hs1++[O.sdict (AW Ah)]++[O.sdict (AW Ao)]) (o:=O.sdict (AW Ao)) (r:=[])) (an k4 (an (At (n:=A9 B) (h:=hz)) (an (Aw (n:=A9 B) (k:=p+1+1) (d:=0)) (an (Aw (n:=A9 B) (k:=p+1+1+n) (d:=A9 B)) (an (B8 (u:=fg) (v:=V.str (Str.mk (AE (Ad (C5 (AE B)) (min (p+1+1) (A9 B)) (min (p+1+1+n) (A9 B)))))) (h:=hf) (h2:=(by rfl))) (an kp (an (FX (ns:=ns) (d:=13) (a0:=a0) (hs:=hs1++[O.sdict (AW Ah)]++[O.sdict (AW Ao)]++[O.sdict (AW Ao)])) (an (ga (l:=hs1++[O.sdict (AW Ah)]++[O.sdict (AW Ao)]++[O.sdict (AW Ao)]) (o:=O.sdict (AW Ao)) (r:=[])) (an k4 (an kl (an f3 (an f1 (an kd (an ke (an (B8 (u:=co) (v:=V.int 0) (h:=ho) (h2:=(by rfl))) (an g3 (an hr3 (an kb (an hXn (an hi3 (an kc (an hi3 (an h2 (an kp trivial))))))))))))))))))))))))))))))))))))) (by kernel_rfl)
end
section
variable {ns:List Int}{a0:O}{hs:List O}{B u:List Nat}{p ri ei hd:Nat}{cl go:Bool}{td fg cc co:V}
theorem RP {n:Nat}{hx u:List Nat}(hl:hx.length<n)(hu:∀y,u.head? =some y→y∉HEX)(hn:((hx++u).take n).length=n):(((hx++u).take n).map FS).all id=false:=by
 rw[List.take_append,EX (BU hl)] at hn ⊢
 rcases u with _|⟨y,u⟩
 ·rw[FJ,AK] at hn;lia
 ·
  have hy:=hu y rfl
  obtain⟨k,hk⟩:∃k,n - hx.length=k+1:=⟨n - hx.length - 1,by lia⟩
  rw[hk,List.take_succ_cons,Aa,List.all_append,An,DW,show FS y=false from decide_eq_false hy]
  simp
theorem Wg {e n:Nat}{hx:List Nat}(t:Tx B (p+1) (e::(hx++u)))(he:Cz e=some n)(hl:hx.length<n)(hu:∀y,u.head? =some y→y∉HEX)(ht:Az td=true)(hf:Az fg=true):
  ∃hs1,B5 hs hs1∧Ca (S ns) 39 15 [IY] ⟨BQ B ri ei hd p cl go (.str ⟨#[92]⟩) (.int 0) td fg cc co,a0::hs⟩ .next
   ⟨BQ B ri ei hd (p+2) cl false (.str ⟨#[92]⟩) (.int 0) (.str ⟨[e].toArray⟩) (.str ⟨((hx++u).take n).toArray⟩) cc co,a0::hs1⟩:=by
 have hz:=t.z
 have q:=Hc (c:=92)
 have hE:esc e=none∧e∉BRK∧n≤8:=⟨(Hk he).1,(fun z=>by rw[(GR z).2] at he;cases he),(Hk he).2.2⟩
 have hb:=hE.2.1
 have h0:endN (e::(hx++u))=0:=by rw[Ga (fun r z=>hb (by rw[(Bj z).1];decide)),if_neg hb]
 refine AA (I9 (ns:=ns) (d:=12) (a0:=a0) (hs:=hs) t) fun hs1 e1=>?_
 have e2:=e1.2
 rw[h0] at e2
 have e2:AN (S ns) 14 44 [.str ⟨B.toArray⟩,.int ((p+1:Nat):Int)] [] (a0::hs) (.int 0) (a0::hs1):=e2
 have s1:Ad B (min (p+1) B.length) (min (p+2) B.length)=[e]:=t.sl 1
 have t2:Tx B (p+2) (hx++u):=t.skip (x:=[e])
 have s2:Ad B (min (p+2) B.length) (min (p+2+n) B.length)=(hx++u).take n:=t2.sl n
 have k3:=EP e (L:=Ah) rfl
 have k4:=EP e (L:=Ao) rfl
 rw[I0,hE.1] at k3
 rw[show Ao.lookup e=some n from he] at k4
 have k3:CW (.str ⟨#[e]⟩) (AW Ah)=some none:=k3
 have k4:CW (.str ⟨#[e]⟩) (AW Ao)=some (some (.int (n:Int))):=k4
 rw[show(#[e]:Array Nat)=[e].toArray from rfl,←s1] at k3 k4
 have hz2:((hx++u).take n).length≤lim:=AM (List.length_take_le _ _) (AM hE.2.2 (by decide))
 have kp:BF (Ad B (min (p+2) B.length) (min (p+2+n) B.length)).length=true:=by rw[s2];exact At hz2
 obtain⟨H,hH⟩:∃H,H=((((hs1++[O.sdict (AW Ah)])++[O.sdict (AW Ao)])++[O.sdict (AW Ao)])++[O.sdict (AW Ao)]):=⟨_,rfl⟩
 have X1:B5 hs H:=by subst hH;exact((((e1.1.trans (B5.app _)).trans (B5.app _)).trans (B5.app _)).trans (B5.app _))
 by_cases hn:((hx++u).take n).length=n
 ·have kl:decide (((Ad B (min (p+2) B.length) (min (p+2+n) B.length)).length:Int)=(n:Int))=true:=by rw[s2,hn];exact decide_eq_true rfl
  have kd:BF (AC V.bool (AC FS (Ad B (min (p+2) B.length) (min (p+2+n) B.length)))).length=true:=by rw[s2,AH,AH];exact At hz2
  have ke:Km (AC V.bool (AC FS (Ad B (min (p+2) B.length) (min (p+2+n) B.length))))=some false:=by
   rw[s2,Ok]
   exact congrArg some (RP hl hu hn)
  refine AA (Xq (ns:=ns) (a0:=a0) (i:=H.length) (suf:=(hx++u).take n) (pre:=[]) (hs:=H++[O.list []]) (v:=.undef) (bs:=[]) rfl (by simp) (by rw[BR,CS];exact hz2)) fun v' f=>AA f fun hs2 f=>?_
  have f3:=f.2.2
  have f1:=f.1
  refine⟨hs2,X1.trans f.2.1.ext,?_⟩
  subst hH
  rw[←s2] at f3 f1
  rw[←s1,←s2]
  exact Ca.by [.a 5,.t,.v .nat (min (p+1) (A9 B)),.v .nat (min (p+1+1) (A9 B)),.t,.c (V.int 0) (a0::hs1),.a 2,.c (V.obj (A9 hs1+1)) (a0::(hs1++[O.sdict (AW Ah)])),.v .ob (O.sdict (AW Ah)),.v .oval (none),.a 1,.c (V.obj (A9 (hs1++[O.sdict (AW Ah)])+1)) (a0::(hs1++[O.sdict (AW Ah)]++[O.sdict (AW Ao)])),.v .ob (O.sdict (AW Ao)),.v .oval (some (V.int (↑n:Int))),.a 2,.c (V.obj (A9 (hs1++[O.sdict (AW Ah)]++[O.sdict (AW Ao)])+1)) (a0::(hs1++[O.sdict (AW Ah)]++[O.sdict (AW Ao)]++[O.sdict (AW Ao)])),.v .ob (O.sdict (AW Ao)),.v .oval (some (V.int (↑n:Int))),.a 1,.t,.v .nat (min (p+1+1) (A9 B)),.v .nat (min (p+1+1+n) (A9 B)),.t,.t,.c (V.obj (A9 (hs1++[O.sdict (AW Ah)]++[O.sdict (AW Ao)]++[O.sdict (AW Ao)])+1)) (a0::(hs1++[O.sdict (AW Ah)]++[O.sdict (AW Ao)]++[O.sdict (AW Ao)]++[O.sdict (AW Ao)])),.v .ob (O.sdict (AW Ao)),.v .oval (some (V.int (↑n:Int))),.a 1,.t,.m (St.mk (QJ v') (a0::hs2)),.v .ob (O.list (AC V.bool ([]++AC FS (Ad B (min (p+2) (A9 B)) (min (p+2+n) (A9 B)))))),.t,.v .bool (false),.a 3] (an (At (n:=A9 B) (h:=hz)) (an (Aw (n:=A9 B) (k:=p+1) (d:=0)) (an (Aw (n:=A9 B) (k:=p+1+1) (d:=A9 B)) (an (B8 (u:=td) (v:=V.str (Str.mk (AE (Ad (C5 (AE B)) (min (p+1) (A9 B)) (min (p+1+1) (A9 B)))))) (h:=ht) (h2:=(by rfl))) (an e2 (an (Gs (ns:=ns) (d:=13) (a0:=a0) (hs:=hs1)) (an (ga (l:=hs1) (o:=O.sdict (AW Ah)) (r:=[])) (an k3 (an (FX (ns:=ns) (d:=13) (a0:=a0) (hs:=hs1++[O.sdict (AW Ah)])) (an (ga (l:=hs1++[O.sdict (AW Ah)]) (o:=O.sdict (AW Ao)) (r:=[])) (an k4 (an (FX (ns:=ns) (d:=13) (a0:=a0) (hs:=hs1++[O.sdict (AW Ah)]++[O.sdict (AW Ao)])) (an (ga (l:=hs1++[O.sdict (AW Ah)]++[O.sdict (AW Ao)]) (o:=O.sdict (AW Ao)) (r:=[])) (an k4 (an (At (n:=A9 B) (h:=hz)) (an (Aw (n:=A9 B) (k:=p+1+1) (d:=0)) (an (Aw (n:=A9 B) (k:=p+1+1+n) (d:=A9 B)) (an (B8 (u:=fg) (v:=V.str (Str.mk (AE (Ad (C5 (AE B)) (min (p+1+1) (A9 B)) (min (p+1+1+n) (A9 B)))))) (h:=hf) (h2:=(by rfl))) (an kp (an (FX (ns:=ns) (d:=13) (a0:=a0) (hs:=hs1++[O.sdict (AW Ah)]++[O.sdict (AW Ao)]++[O.sdict (AW Ao)])) (an (ga (l:=hs1++[O.sdict (AW Ah)]++[O.sdict (AW Ao)]++[O.sdict (AW Ao)]) (o:=O.sdict (AW Ao)) (r:=[])) (an k4 (an kl (an f3 (an f1 (an kd (an ke trivial))))))))))))))))))))))))))) (by kernel_rfl)
 ·have kl:decide (((Ad B (min (p+2) B.length) (min (p+2+n) B.length)).length:Int)=(n:Int))=false:=by rw[s2];exact decide_eq_false (by lia)
  refine⟨H,X1,?_⟩
  subst hH
  rw[←s1,←s2]
  exact Ca.by [.a 5,.t,.v .nat (min (p+1) (A9 B)),.v .nat (min (p+1+1) (A9 B)),.t,.c (V.int 0) (a0::hs1),.a 2,.c (V.obj (A9 hs1+1)) (a0::(hs1++[O.sdict (AW Ah)])),.v .ob (O.sdict (AW Ah)),.v .oval (none),.a 1,.c (V.obj (A9 (hs1++[O.sdict (AW Ah)])+1)) (a0::(hs1++[O.sdict (AW Ah)]++[O.sdict (AW Ao)])),.v .ob (O.sdict (AW Ao)),.v .oval (some (V.int (↑n:Int))),.a 2,.c (V.obj (A9 (hs1++[O.sdict (AW Ah)]++[O.sdict (AW Ao)])+1)) (a0::(hs1++[O.sdict (AW Ah)]++[O.sdict (AW Ao)]++[O.sdict (AW Ao)])),.v .ob (O.sdict (AW Ao)),.v .oval (some (V.int (↑n:Int))),.a 1,.t,.v .nat (min (p+1+1) (A9 B)),.v .nat (min (p+1+1+n) (A9 B)),.t,.t,.c (V.obj (A9 (hs1++[O.sdict (AW Ah)]++[O.sdict (AW Ao)]++[O.sdict (AW Ao)])+1)) (a0::(hs1++[O.sdict (AW Ah)]++[O.sdict (AW Ao)]++[O.sdict (AW Ao)]++[O.sdict (AW Ao)])),.v .ob (O.sdict (AW Ao)),.v .oval (some (V.int (↑n:Int))),.a 1,.f,.a 2] (an (At (n:=A9 B) (h:=hz)) (an (Aw (n:=A9 B) (k:=p+1) (d:=0)) (an (Aw (n:=A9 B) (k:=p+1+1) (d:=A9 B)) (an (B8 (u:=td) (v:=V.str (Str.mk (AE (Ad (C5 (AE B)) (min (p+1) (A9 B)) (min (p+1+1) (A9 B)))))) (h:=ht) (h2:=(by rfl))) (an e2 (an (Gs (ns:=ns) (d:=13) (a0:=a0) (hs:=hs1)) (an (ga (l:=hs1) (o:=O.sdict (AW Ah)) (r:=[])) (an k3 (an (FX (ns:=ns) (d:=13) (a0:=a0) (hs:=hs1++[O.sdict (AW Ah)])) (an (ga (l:=hs1++[O.sdict (AW Ah)]) (o:=O.sdict (AW Ao)) (r:=[])) (an k4 (an (FX (ns:=ns) (d:=13) (a0:=a0) (hs:=hs1++[O.sdict (AW Ah)]++[O.sdict (AW Ao)])) (an (ga (l:=hs1++[O.sdict (AW Ah)]++[O.sdict (AW Ao)]) (o:=O.sdict (AW Ao)) (r:=[])) (an k4 (an (At (n:=A9 B) (h:=hz)) (an (Aw (n:=A9 B) (k:=p+1+1) (d:=0)) (an (Aw (n:=A9 B) (k:=p+1+1+n) (d:=A9 B)) (an (B8 (u:=fg) (v:=V.str (Str.mk (AE (Ad (C5 (AE B)) (min (p+1+1) (A9 B)) (min (p+1+1+n) (A9 B)))))) (h:=hf) (h2:=(by rfl))) (an kp (an (FX (ns:=ns) (d:=13) (a0:=a0) (hs:=hs1++[O.sdict (AW Ah)]++[O.sdict (AW Ao)]++[O.sdict (AW Ao)])) (an (ga (l:=hs1++[O.sdict (AW Ah)]++[O.sdict (AW Ao)]++[O.sdict (AW Ao)]) (o:=O.sdict (AW Ao)) (r:=[])) (an k4 (an kl trivial))))))))))))))))))))))) (by kernel_rfl)
end
section
variable {ns:List Int}{d:Nat}{a0:O}{hs:List O}{B u:List Nat}{p ri ei hd:Nat}{cl go:Bool}{sg sz td fg cc co:V}
theorem aE {u:List Nat}{k:Nat}(h:∀r,u≠k::k::k::r):u.take 3≠[k,k,k]:=fun e=>by
 refine h (u.drop 3) ?_
 rw[show k::k::k::u.drop 3=[k,k,k]++u.drop 3 from rfl,←e,DF]
theorem Pd {u:List Nat}{k:Nat}{r:List Nat}(hk:k=45∨k=46)(e:u=k::k::k::r):MM r=true↔EZ u:=by
 subst e
 constructor
 ·intro h
  rcases r with _|⟨c,r⟩
  ·rcases hk with rfl|rfl;exact .dash0;exact .dots0
  ·
   have h:=of_decide_eq_true h
   rcases hk with rfl|rfl;exact .dash h;exact .dots h
 ·intro h
  cases h with
  |dash0=>rfl
  |dots0=>rfl
  |dash h=>exact decide_eq_true h
  |dots h=>exact decide_eq_true h
theorem Xs {h:Bool}(t:Tx B p u)(hh:(h=true→p=hd)∧(h=false→hd<p))(hn:h=true→¬EZ u):
  ∃hs',B5 hs hs'∧HX (S ns) 39 (d+3) T0 ⟨BQ B ri ei hd p cl go sg sz td fg cc co,a0::hs⟩ false ⟨BQ B ri ei hd p cl go sg sz td fg cc co,a0::hs'⟩:=by
 rcases h with _|_
 ·exact⟨hs,B5.refl _,Xu (CT (hh.2 rfl))⟩
 ·
  have e:=hh.1 rfl
  subst e
  have hn:=hn rfl
  by_cases h1:∃k r,(k=45∨k=46)∧u=k::k::k::r
  ·refine Dm (h1) fun k r hk e=>?_
   refine AA (S6 (ns:=ns) (d:=d) (a0:=a0) (hs:=hs) (ri:=ri) (ei:=ei) (cl:=cl) (go:=go) (sg:=sg) (sz:=sz) (td:=td) (fg:=fg) (cc:=cc) (co:=co) hk (e▸t)) fun hs' x=>⟨hs',x.1,?_⟩
   have hb:MM r=false:=by
    rcases hb:MM r with _|_
    ·rfl
    ·exact(hn ((Pd hk e).mp hb)).elim
   exact hb▸x.2
  ·refine⟨_,B5.app hs,Xt t ⟨aE fun r e=>h1 ⟨_,r,.inl rfl,e⟩,aE fun r e=>h1 ⟨_,r,.inr rfl,e⟩⟩⟩
theorem Xr (t:Tx B p u)(hn:EZ u):
  ∃hs',B5 hs hs'∧HX (S ns) 39 (d+3) T0 ⟨BQ B ri ei p p cl go sg sz td fg cc co,a0::hs⟩ true ⟨BQ B ri ei p p cl go sg sz td fg cc co,a0::hs'⟩:=by
 have h1:∃k r,(k=45∨k=46)∧u=k::k::k::r:=by
  cases hn with
  |dash0=>exact⟨_,_,.inl rfl,rfl⟩
  |dots0=>exact⟨_,_,.inr rfl,rfl⟩
  |dash h=>exact⟨_,_,.inl rfl,rfl⟩
  |dots h=>exact⟨_,_,.inr rfl,rfl⟩
 refine Dm (h1) fun k r hk e=>?_
 refine AA (S6 (ns:=ns) (d:=d) (a0:=a0) (hs:=hs) (ri:=ri) (ei:=ei) (cl:=cl) (go:=go) (sg:=sg) (sz:=sz) (td:=td) (fg:=fg) (cc:=cc) (co:=co) hk (e▸t)) fun hs' x=>⟨hs',x.1,?_⟩
 exact(Pd hk e).mpr hn▸x.2
end
noncomputable abbrev FW (i:Nat):V:=.obj (i+1)
noncomputable abbrev sV (l:List Nat):V:=.str ⟨l.toArray⟩
noncomputable def Cr (hs:List O):List Nat→List Ax→Prop
 |[],[]=>True
 |j::J,r::R=>hs[j]? =some (.list (r.map Av))∧Cr hs J R
 |_,_=>False
theorem Cr.keep {hs hs':List O}:∀{J:List Nat} {R:List Ax},Cr hs J R→(∀j∈J,hs'[j]? =hs[j]?)→Cr hs' J R
 |[],[],_,_=>trivial
 |j::J,r::R,h,k=>⟨(k j (.head _)).trans h.1,Cr.keep h.2 fun j hj=>k j (.tail _ hj)⟩
 |[],_::_,h,_=>h.elim
 |_::_,[],h,_=>h.elim
theorem Cr.snoc {hs:List O}{i:Nat}{row:Ax}(e:hs[i]? =some (.list (row.map Av))):∀{J:List Nat} {R:List Ax},Cr hs J R→Cr hs (J++[i]) (R++[row])
 |[],[],_=>⟨e,trivial⟩
 |j::J,r::R,h=>⟨h.1,Cr.snoc e h.2⟩
 |[],_::_,h=>h.elim
 |_::_,[],h=>h.elim
noncomputable def F7 (n0:Nat)(h h':List O):Prop:=h.length≤h'.length∧(∀j,j<n0→h'[j]? =h[j]?)∧(DY h→DY h')
theorem F7.trans {n:Nat}{a b c:List O}(x:F7 n a b)(y:F7 n b c):F7 n a c:=⟨AM x.1 y.1,fun j h=>(y.2.1 j h).trans (x.2.1 j h),fun n=>y.2.2 (x.2.2 n)⟩
theorem B5.keepB {n:Nat}{h h':List O}(x:B5 h h')(hn:n≤h.length):F7 n h h':=⟨x.1,fun j hj=>x.2.1 j (Am hj hn),x.2.2⟩
theorem F7.set {n c:Nat}{h:List O}{o:O}(hc:n≤c)(ho:Eg o=true:=by rfl):F7 n h (h.set c o):=⟨by rw[D0];exact Ak _,fun j hj=>B7 (by lia),fun n=>n.set ho⟩
structure E5 (n0:Nat)(hs:List O)(ri ei:Nat)(I:List Nat)(i:Nat)(D:List Ax)(row:Ax)(es:List (List Nat)):Prop where
 rw_:hs[ri]? =some (.list (I.map FW++[FW i]))
 en:hs[ei]? =some (.list (es.map sV))
 cu:hs[i]? =some (.list (row.map Av))
 dn:Cr hs I D
 n1:ri≠ei
 n2:i≠ri
 n3:i≠ei
 ds:∀j∈I,j≠i∧j≠ri∧j≠ei
 lt:∀j∈I,j<hs.length
 lo:n0≤ri∧n0≤ei∧n0≤i
section
variable {n0:Nat}{hs hs':List O}{ri ei i:Nat}{I:List Nat}{D:List Ax}{row:Ax}{es:List (List Nat)}
theorem E5.ltI (s:E5 n0 hs ri ei I i D row es):i<hs.length:=(AI.mp s.cu).1
theorem E5.ltR (s:E5 n0 hs ri ei I i D row es):ri<hs.length:=(AI.mp s.rw_).1
theorem E5.ltE (s:E5 n0 hs ri ei I i D row es):ei<hs.length:=(AI.mp s.en).1
theorem E5.ext (x:B5 hs hs')(s:E5 n0 hs ri ei I i D row es):E5 n0 hs' ri ei I i D row es:=
 {s with rw_:=x.get s.rw_,en:=x.get s.en,cu:=x.get s.cu,dn:=s.dn.keep fun j hj=>x.2.1 j (s.lt j hj),lt:=fun j hj=>Am (s.lt j hj) x.1}
theorem E5.put {q:Nat×Bool}(s:E5 n0 hs ri ei I i D row es):E5 n0 (hs.set i (.list (row.map Av++[Av q]))) ri ei I i D (row++[q]) es:=
 {s with
  rw_:=(B7 s.n2).trans s.rw_
  en:=(B7 s.n3).trans s.en
  cu:=by rw[Aa];exact EY s.ltI
  dn:=s.dn.keep fun j hj=>B7 (DS (s.ds j hj).1)
  lt:=fun j hj=>by rw[D0];exact s.lt j hj}
theorem E5.new {l:List Nat}(s:E5 n0 hs ri ei I i D row es):E5 n0 ((hs.set ei (.list (es.map sV++[sV l]))++[O.list []]).set ri (.list ((I.map FW++[FW i])++[FW (hs.set ei (.list (es.map sV++[sV l]))).length]))) ri ei (I++[i]) (hs.set ei (.list (es.map sV++[sV l]))).length (D++[row]) [] (es++[l]):=by
 have hl:(hs.set ei (.list (es.map sV++[sV l]))).length=hs.length:=D0
 have g:∀{o:O} {j:Nat},j≠ei→j≠ri→j<hs.length→((hs.set ei (.list (es.map sV++[sV l]))++[O.list []]).set ri o)[j]? =hs[j]?:=fun h1 h2 h3=>by
  rw[B7 (DS h2),C6 (by rw[hl];exact h3),B7 (DS h1)]
 have li:=s.ltI;have lr:=s.ltR;have le:=s.ltE
 refine{rw_:=?_,en:=?_,cu:=?_,dn:=?_,n1:=s.n1,n2:=?_,n3:=?_,ds:=?_,lt:=?_,lo:=⟨s.lo.1,s.lo.2.1,?_⟩}
 ·rw[Aa]
  exact EY (by rw[AF,hl];lia)
 ·rw[B7 s.n1,C6 (by rw[hl];exact le),Aa]
  exact EY le
 ·rw[B7 (by lia),C2 (Ak _),Ep];rfl
 ·exact Cr.snoc ((g s.n3 s.n2 li).trans s.cu) (s.dn.keep fun j hj=>g (s.ds j hj).2.2 (s.ds j hj).2.1 (s.lt j hj))
 ·lia
 ·lia
 ·intro j hj
  rcases BB.mp hj with hj|hj
  ·have q:=s.ds j hj;have:=s.lt j hj;exact⟨by lia,q.2⟩
  ·rw[Ac.mp hj];exact⟨by lia,s.n2,s.n3⟩
 ·intro j hj
  rw[D0,AF,hl]
  rcases BB.mp hj with hj|hj
  ·have:=s.lt j hj;lia
  ·rw[Ac.mp hj];lia
 ·have:=s.lo.2.2;lia
theorem E5.keepP {q:Nat×Bool}(s:E5 n0 hs ri ei I i D row es):F7 n0 hs (hs.set i (.list (row.map Av++[Av q]))):=F7.set s.lo.2.2
theorem E5.keepN {l:List Nat}{o:List V}(s:E5 n0 hs ri ei I i D row es):F7 n0 hs ((hs.set ei (.list (es.map sV++[sV l]))++[O.list []]).set ri (.list o)):=
 ((F7.set s.lo.2.1).trans ((B5.app _).keepB (by rw[D0];have:=s.ltI;have:=s.lo.2.2;lia))).trans (F7.set s.lo.1)
end
set_option backward.match.sparseCases false in
noncomputable def bE:Stmt→Pos
 | .If _ _ _ p=>p
 |_=>default
theorem S7:∃p,OL= .If T0 (wB OL) [IY] p:=⟨bE OL,by kernel_rfl⟩
theorem Pq:NA=NA.take 2++[OL]:=by kernel_rfl
section
variable {ns:List Int}{a0:O}{hs:List O}{B u:List Nat}{n0 p ri ei hd:Nat}{cl:Bool}{sg sz td fg cc co:V}
theorem X7:Ca (S ns) 39 15 (wB OL) ⟨BQ B ri ei hd p cl true sg sz td fg cc co,a0::hs⟩ .next ⟨BQ B ri ei hd p cl false sg sz td fg cc co,a0::hs⟩:=by
 exact Ca.by [.a 1] trivial (by kernel_rfl)
theorem YH:BC (S ns) 15 (wT PF) (wB PF) ⟨BQ B ri ei hd p cl false sg sz td fg cc co,a0::hs⟩ .next ⟨BQ B ri ei hd p cl false sg sz td fg cc co,a0::hs⟩:=by
 exact BC.by [.a 1] trivial (by kernel_rfl)
theorem Qx (k:Bool→St→Ay)(e:V→St→Ay):(E (S ns) 40).tr 15 (wT PF) ⟨BQ B ri ei hd p cl true sg sz td fg cc co,a0::hs⟩ k e=k true ⟨BQ B ri ei hd p cl true sg sz td fg cc co,a0::hs⟩:=by kernel_rfl
theorem G9 {h:Bool}(t:Tx B p u)(hh:(h=true→p=hd)∧(h=false→hd<p))(hn:h=true→¬EZ u)(h1:Az sg=true)(h2:Az sz=true):∃hs2,B5 hs hs2∧∀s',Ca (S ns) 39 15 [IY] ⟨BQ B ri ei hd p cl true (sV (u.take 1)) (.int (endN u:Int)) td fg cc co,a0::hs2⟩ .next s'→CR (S ns) 15 NA ⟨BQ B ri ei hd p cl true sg sz td fg cc co,a0::hs⟩ .next s':=
 AA (aT (ns:=ns) (d:=12) (a0:=a0) (hs:=hs) (ri:=ri) (ei:=ei) (hd:=hd) (cl:=cl) (go:=true) (td:=td) (fg:=fg) (cc:=cc) (co:=co) t h1 h2) fun hs1 e=>AA (Xs (ns:=ns) (d:=12) (a0:=a0) (hs:=hs1) (ri:=ri) (ei:=ei) (cl:=cl) (go:=true) (sg:=sV (u.take 1)) (sz:=.int (endN u:Int)) (td:=td) (fg:=fg) (cc:=cc) (co:=co) t hh hn) fun hs2 f=>⟨hs2,e.1.trans f.1,fun s' x=>by
  rw[Pq]
  refine e.2.app ?_
  obtain⟨q,hq⟩:=S7
  rw[hq]
  exact Ca.if_f f.2 x⟩
theorem Z0 (t:Tx B p u)(hn:EZ u)(h1:Az sg=true)(h2:Az sz=true):∃hs2,B5 hs hs2∧CR (S ns) 15 NA ⟨BQ B ri ei p p cl true sg sz td fg cc co,a0::hs⟩ .next ⟨BQ B ri ei p p cl false (sV (u.take 1)) (.int (endN u:Int)) td fg cc co,a0::hs2⟩:=
 AA (aT (ns:=ns) (d:=12) (a0:=a0) (hs:=hs) (ri:=ri) (ei:=ei) (hd:=p) (cl:=cl) (go:=true) (td:=td) (fg:=fg) (cc:=cc) (co:=co) t h1 h2) fun hs1 e=>AA (Xr (ns:=ns) (d:=12) (a0:=a0) (hs:=hs1) (ri:=ri) (ei:=ei) (cl:=cl) (go:=true) (sg:=sV (u.take 1)) (sz:=.int (endN u:Int)) (td:=td) (fg:=fg) (cc:=cc) (co:=co) t hn) fun hs2 f=>⟨hs2,e.1.trans f.1,by
  rw[Pq]
  refine e.2.app ?_
  obtain⟨q,hq⟩:=S7
  rw[hq]
  exact Ca.if_t f.2 X7⟩
structure Iz (hs:List O)(ri ei:Nat)(J:List Nat)(R:List Ax)(es:List (List Nat)):Prop where
 rw_:hs[ri]? =some (.list (J.map FW))
 en:hs[ei]? =some (.list (es.map sV))
 dn:Cr hs J R
theorem E5.fin {i:Nat}{I:List Nat}{D:List Ax}{row:Ax}{es:List (List Nat)}(s:E5 n0 hs ri ei I i D row es):Iz hs ri ei (I++[i]) (D++[row]) es:=
 ⟨by rw[Aa];exact s.rw_,s.en,Cr.snoc s.cu s.dn⟩
noncomputable def Df (ns:List Int)(a0:O)(B:List Nat)(n0 ri ei:Nat)(st:St)(hs:List O)(cl:Bool)(hd p:Nat)(R:List Ax)(E:List (List Nat)):Prop:=
 ∃sg sz td fg cc co hs' J,Iz hs' ri ei J R E∧F7 n0 hs hs'∧BC (S ns) 15 (wT PF) (wB PF) st .next ⟨BQ B ri ei hd p cl false sg sz td fg cc co,a0::hs'⟩
theorem Df.stop {i:Nat}{I:List Nat}{D:List Ax}{row:Ax}{es:List (List Nat)}{hd2 p2:Nat}{cl2:Bool}{sg2 sz2 td2 fg2 cc2 co2:V}{hs2:List O}(x:CR (S ns) 15 NA ⟨BQ B ri ei hd p cl true sg sz td fg cc co,a0::hs⟩ .next ⟨BQ B ri ei hd2 p2 cl2 false sg2 sz2 td2 fg2 cc2 co2,a0::hs2⟩)(k:F7 n0 hs hs2)(s:E5 n0 hs2 ri ei I i D row es):
  Df ns a0 B n0 ri ei ⟨BQ B ri ei hd p cl true sg sz td fg cc co,a0::hs⟩ hs cl2 hd2 p2 (D++[row]) es:=
 ⟨sg2,sz2,td2,fg2,cc2,co2,hs2,_,s.fin,k,BC.next Qx x YH⟩
theorem Df.step {hdF pF:Nat}{clF:Bool}{R:List Ax}{E:List (List Nat)}{s2:St}{hs2:List O}(x:CR (S ns) 15 NA ⟨BQ B ri ei hd p cl true sg sz td fg cc co,a0::hs⟩ .next s2)(k:F7 n0 hs hs2)(n:Df ns a0 B n0 ri ei s2 hs2 clF hdF pF R E):
  Df ns a0 B n0 ri ei ⟨BQ B ri ei hd p cl true sg sz td fg cc co,a0::hs⟩ hs clF hdF pF R E:=by
 refine SR (n) fun sg' sz' td' fg' cc' co' hs' J r k' w=>?_
 exact⟨sg',sz',td',fg',cc',co',hs',J,r,k.trans k',BC.next Qx x w⟩
end
theorem Y8 {e v:Nat}(h:esc e=some v):v<1114112:=by
 have key:∀(L:List (Nat×Nat)),(∀q∈L,q.2<1114112)→∀{e v:Nat},L.lookup e=some v→v<1114112:=by
  intro L
  induction L with
  |nil=>intro _ e v h;cases h
  |cons q L ih=>
   intro hL e v h
   rw[Bc] at h
   split at h
   ·exact AG h▸hL q (.head _)
   ·exact ih (fun q hq=>hL q (.tail _ hq)) h
 exact key OT (by decide) h
theorem N3 {b l u:List Nat}(h:DQ b l u):∃c b',b=c::b'∧c∈BRK∧sV l= .str (if c∈[8232,8233] then⟨#[c]⟩ else A8 "\n")∧endN (b++u)=b.length:=by
 have nl:sV [10]= .str (A8 "\n"):=congrArg V.str (show(⟨[10].toArray⟩:Str)=A8 "\n" by decide+kernel)
 cases h with
 |crlf=>exact⟨13,[10],rfl,by decide,by rw[if_neg (by decide)];exact nl,rfl⟩
 |@one c r hc hn=>
  have hb:=(show ∀z∈[13,10,133],z∈BRK∧z∉[8232,8233] by decide) c hc
  exact⟨c,[],rfl,hb.1,by rw[if_neg hb.2];exact nl,by show endN (c::u)=1;rw[Ga hn,if_pos hb.1]⟩
 |@wide c r hc=>
  have hb:=(show ∀z∈[8232,8233],z∈BRK∧z≠13 by decide) c hc
  exact⟨c,[],rfl,hb.1,by rw[if_pos hc],by show endN (c::u)=1;rw[Ga (fun r e=>hb.2 (Bj e).1),if_pos hb.1]⟩
theorem IX {c:Nat}{u:List Nat}(h:c∉BRK):endN (c::u)=0:=by
 rw[Ga (fun r e=>h (by rw[(Bj e).1];decide)),if_neg h]
theorem Ew {c:Nat}{u:List Nat}(h:c≠45∧c≠46):¬EZ (c::u):=fun d=>by rcases d with _|_<;>first|exact h.1 rfl|exact h.2 rfl
theorem Zr {c:Nat}(h:c∈BRK):c≠45∧c≠46:=(show ∀z∈BRK,z≠45∧z≠46 by decide) c h
theorem Wi:¬EZ []:=fun d=>by cases d
section
variable {ns:List Int}{a0:O}{B:List Nat}{n0 ri ei:Nat}
theorem XY {h cl:Bool}{u x r:List Nat}{its:List ET}(q:Pz h u its x cl r):∀{p hd i:Nat} {hs:List O} {I:List Nat} {D:List Ax} {row:Ax} {es:List (List Nat)} {sg sz td fg cc co:V},Tx B p u→p+u.length≤lim→((h=true→p=hd)∧(h=false→hd<p))→E5 n0 hs ri ei I i D row es→I.length<p→es.length<p→row.length<p→
  Az sg=true→Az sz=true→Az td=true→Az fg=true→Az cc=true→Az co=true→
  Df ns a0 B n0 ri ei ⟨BQ B ri ei hd p false true sg sz td fg cc co,a0::hs⟩ hs cl (hdN x p hd) (p+x.length) (D++(row++(AT its).1)::(AT its).2.map (·.2)) (es++(AT its).2.map (·.1)):=by
 have fin:∀{D:List Ax} {row:Ax} {E:List (List Nat)} {p hd hd' p':Nat} {cl:Bool} {st:St} {hs:List O},Df ns a0 B n0 ri ei st hs cl hd' p' (D++[row]) E→Df ns a0 B n0 ri ei st hs cl hd' p' (D++(row++(AT []).1)::(AT []).2.map (·.2)) (E++(AT []).2.map (·.1)):=fun h=>by
  show Df ns a0 B n0 ri ei _ _ _ _ _ (_++[_++[]]) (_++[])
  rw[AK,AK];exact h
 have low:∀{n p k:Nat},n<p→p+k≤lim→BF n=true:=fun h1 h2=>At (by lia)
 have lowI:∀{I:List Nat} {i p k:Nat},I.length<p→p+k≤lim→BF (I.map FW++[FW i]).length=true:=fun h1 h2=>At (by rw[AF,AH,BZ];lia)
 have lowE:∀{E:List (List Nat)} {p k:Nat},E.length<p→p+k≤lim→BF (E.map sV).length=true:=fun h1 h2=>At (by rw[AH];lia)
 have lowR:∀{E:Ax} {p k:Nat},E.length<p→p+k≤lim→BF (E.map Av).length=true:=fun h1 h2=>At (by rw[AH];lia)
 have lenX:∀{I:List Nat} {i:Nat},(I.map FW++[V.obj (i+1)]).length=I.length+1:=by intro I i;simp
 have ON:∀{I:List Nat} {i:Nat},(I.map FW++[V.obj (i+1)])[I.length]? =some (.obj (i+1)):=by intro I i;rw[C2 (by simp)];simp
 induction q with
 |@doc u hd'=>
  intro p hd i hs I D row es sg sz td fg cc co t hz hh s l1 l2 l3 o1 o2 o3 o4 o5 o6
  have e:=hh.1 rfl
  subst e
  refine AR (Z0 (ns:=ns) (a0:=a0) (hs:=hs) (ri:=ri) (ei:=ei) (cl:=false) (td:=td) (fg:=fg) (cc:=cc) (co:=co) t hd' o1 o2) fun hs2 x2 y=>?_
  exact fin (p:=p) (hd:=p) (Df.stop y (x2.keepB (by have:=s.ltI;have:=s.lo.2.2;lia)) (s.ext x2))
 |@eot h=>
  intro p hd i hs I D row es sg sz td fg cc co t hz hh s l1 l2 l3 o1 o2 o3 o4 o5 o6
  refine AR (G9 (ns:=ns) (a0:=a0) (hs:=hs) (ri:=ri) (ei:=ei) (cl:=false) (td:=td) (fg:=fg) (cc:=cc) (co:=co) t hh (fun zz=>Wi) o1 o2) fun hs2 x2 y=>?_
  exact fin (p:=p) (hd:=p) (Df.stop (y _ Zk) (x2.keepB (by have:=s.ltI;have:=s.lo.2.2;lia)) (s.ext x2))
 |@quote h r=>
  intro p hd i hs I D row es sg sz td fg cc co t hz hh s l1 l2 l3 o1 o2 o3 o4 o5 o6
  refine AR (G9 (ns:=ns) (a0:=a0) (hs:=hs) (ri:=ri) (ei:=ei) (cl:=false) (td:=td) (fg:=fg) (cc:=cc) (co:=co) t hh (fun zz=>Ew (by decide)) o1 o2) fun hs2 x2 y=>?_
  exact fin (p:=p) (hd:=p) (Df.stop (y _ Wh) (x2.keepB (by have:=s.ltI;have:=s.lo.2.2;lia)) (s.ext x2))
 |@brk h cl b l u x r its hb _ ih=>
  intro p hd i hs I D row es sg sz td fg cc co t hz hh s l1 l2 l3 o1 o2 o3 o4 o5 o6
  refine HD (N3 hb) fun c b' e hc hl hk=>?_
  have hk0:0<b.length:=by rw[e,AQ];lia
  refine AR (G9 (ns:=ns) (a0:=a0) (hs:=hs) (ri:=ri) (ei:=ei) (cl:=false) (td:=td) (fg:=fg) (cc:=cc) (co:=co) t hh (fun zz=>by rw[e];exact Ew (Zr hc)) o1 o2) fun hs2 x2 y=>?_
  have s2:=s.ext (x2.trans (B5.app hs2 (o:=O.list Sp)))
  have s1:=s.ext x2
  have z:=Zl (ns:=ns) (d:=12) (a0:=a0) (hs:=hs2) (B:=B) (p:=p) (ri:=ri) (ei:=ei) (hd:=hd) (cl:=false) (go:=true) (td:=td) (fg:=fg) (cc:=cc) (co:=co) (c:=c) (k:=b.length) hc rfl hk0 s1.rw_ s1.en (lowI l1 hz) (lowE l2 hz) (DS s.n1)
  rw[←hl] at z
  rw[hk,show(b++u).take 1=[c] by rw[e];rfl] at y
  rw[AF] at hz
  have n:=ih (sg:=.str ⟨#[c]⟩) (sz:=.int (b.length:Int)) (t.skip) (by lia) ⟨fun zz=>rfl,fun z=>nomatch z⟩ (s2.new (l:=l)) (by rw[AF,BZ];lia) (by rw[AF,BZ];lia) (by rw[BR];lia) rfl rfl o3 o4 o5 o6
  rw[show hdN (b++x) p hd=hdN x (p+b.length) (p+b.length) by rw[IS,MI hb],AF,←BP]
  show Df ns a0 B n0 ri ei _ _ _ _ _ (D++(row++[])::((AT its).1::(AT its).2.map (·.2))) (es++l::(AT its).2.map (·.1))
  rw[AK]
  have n:Df ns a0 B n0 ri ei _ _ _ _ _ ((D++[row])++([]++(AT its).1)::(AT its).2.map (·.2)) ((es++[l])++(AT its).2.map (·.1)):=n
  rw[AB D [row],AB es [l]] at n
  exact Df.step (y _ z) (((x2.trans (B5.app hs2 (o:=O.list Sp))).keepB (by have:=s.ltI;have:=s.lo.2.2;lia)).trans (s2.keepN (l:=l))) n
 |@sign h cl c u x r its h1 h2 h3 _ ih=>
  intro p hd i hs I D row es sg sz td fg cc co t hz hh s l1 l2 l3 o1 o2 o3 o4 o5 o6
  refine AR (G9 (ns:=ns) (a0:=a0) (hs:=hs) (ri:=ri) (ei:=ei) (cl:=false) (td:=td) (fg:=fg) (cc:=cc) (co:=co) t hh (fun zz=>h3 ‹_›) o1 o2) fun hs2 x2 y=>?_
  have s1:=s.ext x2
  have s2:=s.ext (x2.trans (B5.app hs2 (o:=O.list Vg)))
  have q:=(show c≠34∧c≠92 by simpa using h1)
  have z:=YE (d:=12) (ns:=ns) (a0:=a0) (hs:=hs2) (B:=B) (p:=p) (ri:=ri) (ei:=ei) (hd:=hd) (cl:=false) (go:=true) (td:=td) (fg:=fg) (cc:=cc) (co:=co) (c:=c) (X:=I.map FW) (n:=I.length) q.1 q.2 s1.rw_ s1.cu lenX ON (by lia) (lowR l3 hz)
  rw[IX h2] at y
  rw[AQ] at hz
  have hp:hd≤p:=by cases h;exact BU (hh.2 rfl);exact Bp (hh.1 rfl).symm
  have n:=ih (sg:=.str ⟨#[c]⟩) (sz:=.int 0) (t.skip (x:=[c])) (by simp;lia) ⟨(fun z=>nomatch z),fun zz=>Nat.lt_succ_of_le hp⟩ (s2.put (q:=(c,decide (c∉[32,9])))) (by simp;lia) (by simp;lia) (by simp;lia) rfl rfl o3 o4 o5 o6
  rw[show hdN (c::x) p hd=hdN x (p+1) hd by show hdN x (p+1) (if c∈BRK then p+1 else hd)=_;rw[if_neg h2],AQ,BY x.length 1,←BP]
  show Df ns a0 B n0 ri ei _ _ _ _ _ (D++(row++((c,decide (c∉[32,9]))::(AT its).1))::(AT its).2.map (·.2)) (es++(AT its).2.map (·.1))
  rw[EH row]
  exact Df.step (y _ z) (((x2.trans (B5.app hs2 (o:=O.list Vg))).keepB (by have:=s.ltI;have:=s.lo.2.2;lia)).trans (s2.keepP (q:=(c,decide (c∉[32,9]))))) n
 |@ebrk h cl b l u x r its hb _ ih=>
  intro p hd i hs I D row es sg sz td fg cc co t hz hh s l1 l2 l3 o1 o2 o3 o4 o5 o6
  refine AR (G9 (ns:=ns) (a0:=a0) (hs:=hs) (ri:=ri) (ei:=ei) (cl:=false) (td:=td) (fg:=fg) (cc:=cc) (co:=co) t hh (fun zz=>Ew (by decide)) o1 o2) fun hs2 x2 y=>?_
  have t1:Tx B (p+1) (b++u):=t.skip (x:=[92])
  refine HD (N3 hb) fun c b' e hc hl hk=>?_
  have hk0:0<b.length:=by rw[e,AQ];lia
  have s1:=s.ext x2
  refine AR (YF (d:=12) (ns:=ns) (a0:=a0) (hs:=hs2) (B:=B) (p:=p) (ri:=ri) (ei:=ei) (hd:=hd) (cl:=false) (go:=true) (td:=td) (fg:=fg) (cc:=cc) (co:=co) t1 (by rw[hk];exact hk0) o3 s1.rw_ s1.en (lowI l1 hz) (lowE l2 hz) (DS s.n1)) fun hs3 x3 z=>?_
  have s2:=s1.ext x3
  rw[show V.str (A8 "")=sV [] from congrArg V.str (show A8 ""=(⟨[].toArray⟩:Str) by decide+kernel),hk] at z
  rw[IX (by decide)] at y
  rw[AQ,AF] at hz
  have n:=ih (sg:=.str ⟨#[92]⟩) (sz:=.int (b.length:Int)) (td:=.str ⟨((b++u).take 1).toArray⟩) (t1.skip) (by lia) ⟨fun zz=>rfl,fun z=>nomatch z⟩ (s2.new (l:=[])) (by rw[AF,BZ];lia) (by rw[AF,BZ];lia) (by rw[BR];lia) rfl rfl rfl o4 o5 o6
  rw[show hdN (92::(b++x)) p hd=hdN x (p+1+b.length) (p+1+b.length) by show hdN (b++x) (p+1) hd=_;rw[IS,MI hb],show p+(92::(b++x)).length=p+1+b.length+x.length by simp;lia]
  show Df ns a0 B n0 ri ei _ _ _ _ _ (D++(row++[])::((AT its).1::(AT its).2.map (·.2))) (es++[]::(AT its).2.map (·.1))
  rw[AK]
  have n:Df ns a0 B n0 ri ei _ _ _ _ _ ((D++[row])++([]++(AT its).1)::(AT its).2.map (·.2)) ((es++[[]])++(AT its).2.map (·.1)):=n
  rw[AB D [row],AB es [[]]] at n
  exact Df.step (y _ z) (((x2.trans x3).keepB (by have:=s.ltI;have:=s.lo.2.2;lia)).trans (s2.keepN (l:=[]))) n
 |@esc h cl e v u x r its he _ ih=>
  intro p hd i hs I D row es sg sz td fg cc co t hz hh s l1 l2 l3 o1 o2 o3 o4 o5 o6
  refine AR (G9 (ns:=ns) (a0:=a0) (hs:=hs) (ri:=ri) (ei:=ei) (cl:=false) (td:=td) (fg:=fg) (cc:=cc) (co:=co) t hh (fun zz=>Ew (by decide)) o1 o2) fun hs2 x2 y=>?_
  have t1:Tx B (p+1) (e::u):=t.skip (x:=[92])
  have s1:=s.ext x2
  refine AR (Zj (d:=12) (ns:=ns) (a0:=a0) (hs:=hs2) (B:=B) (p:=p) (ri:=ri) (ei:=ei) (hd:=hd) (cl:=false) (go:=true) (td:=td) (fg:=fg) (cc:=cc) (co:=co) (X:=I.map FW) (n:=I.length) t1 he (Y8 he) o3 s1.rw_ s1.cu lenX ON (by lia) (lowR l3 hz)) fun hs3 x3 z=>?_
  have s2:=s1.ext x3
  rw[IX (by decide)] at y
  rw[AQ,AQ] at hz
  have hp:hd≤p:=by cases h;exact BU (hh.2 rfl);exact Bp (hh.1 rfl).symm
  have t3:Tx B (p+2) u:=t1.skip (x:=[e])
  have n:=ih (sg:=.str ⟨#[92]⟩) (sz:=.int 0) (td:=.str ⟨#[e]⟩) (hd:=hd) t3 (by lia) ⟨(fun z=>nomatch z),fun zz=>by lia⟩ (s2.put (q:=(v,true))) (by lia) (by lia) (by rw[AF,BZ];lia) rfl rfl rfl o4 o5 o6
  rw[show hdN (92::e::x) p hd=hdN x (p+2) hd by show hdN x (p+2) (if e∈BRK then p+2 else hd)=_;rw[if_neg (SP he)],AQ,AQ,BP x.length,BY x.length 2,←BP]
  show Df ns a0 B n0 ri ei _ _ _ _ _ (D++(row++((v,true)::(AT its).1))::(AT its).2.map (·.2)) (es++(AT its).2.map (·.1))
  rw[EH row]
  exact Df.step (y _ z) (((x2.trans x3).keepB (by have:=s.ltI;have:=s.lo.2.2;lia)).trans (s2.keepP (q:=(v,true)))) n
 |@code h cl e n v hx u x r its he hl hhx hL hv _ ih=>
  intro p hd i hs I D row es sg sz td fg cc co t hz hh s l1 l2 l3 o1 o2 o3 o4 o5 o6
  refine AR (G9 (ns:=ns) (a0:=a0) (hs:=hs) (ri:=ri) (ei:=ei) (cl:=false) (td:=td) (fg:=fg) (cc:=cc) (co:=co) t hh (fun zz=>Ew (by decide)) o1 o2) fun hs2 x2 y=>?_
  have t1:Tx B (p+1) (e::(hx++u)):=t.skip (x:=[92])
  have s1:=s.ext x2
  refine BJ (YG (ns:=ns) (a0:=a0) (hs:=hs2) (B:=B) (p:=p) (ri:=ri) (ei:=ei) (hd:=hd) (cl:=false) (go:=true) (td:=td) (fg:=fg) (cc:=cc) (co:=co) (X:=I.map FW) (m:=I.length) t1 he hl hhx hL hv o3 o4 o5 o6 s1.rw_ s1.cu lenX ON (by lia) (lowR l3 hz)) fun hs3 cc' oc x3 z=>?_
  have s2:=s1.ext x3
  rw[IX (by decide)] at y
  rw[AQ,AQ,AF] at hz
  have hp:hd≤p:=by cases h;exact BU (hh.2 rfl);exact Bp (hh.1 rfl).symm
  have t3:Tx B (p+2+hx.length) u:=Tx.skip (x:=hx) (t1.skip (x:=[e]))
  have n:=ih (sg:=.str ⟨#[92]⟩) (sz:=.int 0) (td:=.str ⟨[e].toArray⟩) (fg:=.str ⟨hx.toArray⟩) (co:=.int (v:Int)) (hd:=hd) t3 (by lia) ⟨(fun z=>nomatch z),fun zz=>by lia⟩ (s2.put (q:=(v,true))) (by lia) (by lia) (by rw[AF,BZ];lia) rfl rfl rfl rfl oc rfl
  rw[show hdN (92::e::(hx++x)) p hd=hdN x (p+2+hx.length) hd by show hdN (hx++x) (p+2) (if e∈BRK then p+2 else hd)=_;rw[if_neg (K7 he),IS,Mu fun c hc=>S3 (hhx c hc)],show p+(92::e::(hx++x)).length=p+2+hx.length+x.length by simp;lia]
  show Df ns a0 B n0 ri ei _ _ _ _ _ (D++(row++((v,true)::(AT its).1))::(AT its).2.map (·.2)) (es++(AT its).2.map (·.1))
  rw[EH row]
  exact Df.step (y _ z) (((x2.trans x3).keepB (by have:=s.ltI;have:=s.lo.2.2;lia)).trans (s2.keepP (q:=(v,true)))) n
 |@unk0 h=>
  intro p hd i hs I D row es sg sz td fg cc co t hz hh s l1 l2 l3 o1 o2 o3 o4 o5 o6
  refine AR (G9 (ns:=ns) (a0:=a0) (hs:=hs) (ri:=ri) (ei:=ei) (cl:=false) (td:=td) (fg:=fg) (cc:=cc) (co:=co) t hh (fun zz=>Ew (by decide)) o1 o2) fun hs2 x2 y=>?_
  have t1:Tx B (p+1) []:=t.skip (x:=[92])
  have s1:=s.ext x2
  refine AR (YD (d:=12) (ns:=ns) (a0:=a0) (hs:=hs2) (B:=B) (p:=p) (ri:=ri) (ei:=ei) (hd:=hd) (cl:=false) (go:=true) (td:=td) (fg:=fg) (cc:=cc) (co:=co) t1 o3) fun hs3 x3 z=>?_
  exact fin (p:=p) (hd:=p) (Df.stop (y _ z) ((x2.trans x3).keepB (by have:=s.ltI;have:=s.lo.2.2;lia)) (s1.ext x3))
 |@unk h e u he hc hb=>
  intro p hd i hs I D row es sg sz td fg cc co t hz hh s l1 l2 l3 o1 o2 o3 o4 o5 o6
  refine AR (G9 (ns:=ns) (a0:=a0) (hs:=hs) (ri:=ri) (ei:=ei) (cl:=false) (td:=td) (fg:=fg) (cc:=cc) (co:=co) t hh (fun zz=>Ew (by decide)) o1 o2) fun hs2 x2 y=>?_
  have t1:Tx B (p+1) (e::u):=t.skip (x:=[92])
  have s1:=s.ext x2
  rw[IX (by decide)] at y
  refine AR (Zi (d:=12) (ns:=ns) (a0:=a0) (hs:=hs2) (B:=B) (p:=p) (ri:=ri) (ei:=ei) (hd:=hd) (cl:=false) (go:=true) (td:=td) (fg:=fg) (cc:=cc) (co:=co) t1 he hc hb o3) fun hs3 x3 z=>?_
  exact fin (p:=p) (hd:=p) (Df.stop (y _ z) ((x2.trans x3).keepB (by have:=s.ltI;have:=s.lo.2.2;lia)) (s1.ext x3))
 |@short h e n hx u he hhx hl hu=>
  intro p hd i hs I D row es sg sz td fg cc co t hz hh s l1 l2 l3 o1 o2 o3 o4 o5 o6
  refine AR (G9 (ns:=ns) (a0:=a0) (hs:=hs) (ri:=ri) (ei:=ei) (cl:=false) (td:=td) (fg:=fg) (cc:=cc) (co:=co) t hh (fun zz=>Ew (by decide)) o1 o2) fun hs2 x2 y=>?_
  have t1:Tx B (p+1) (e::(hx++u)):=t.skip (x:=[92])
  have s1:=s.ext x2
  rw[IX (by decide)] at y
  refine AR (Wg (ns:=ns) (a0:=a0) (hs:=hs2) (B:=B) (p:=p) (ri:=ri) (ei:=ei) (hd:=hd) (cl:=false) (go:=true) (td:=td) (fg:=fg) (cc:=cc) (co:=co) t1 he hl hu o3 o4) fun hs3 x3 z=>?_
  have z:=fin (p:=p) (hd:=p) (Df.stop (y _ z) ((x2.trans x3).keepB (by have:=s.ltI;have:=s.lo.2.2;lia)) (s1.ext x3))
  rw[show hdN [92,e] p hd=hd by show(if e∈BRK then p+2 else hd)=hd;rw[if_neg (K7 he)]]
  exact z
end
theorem L4 {h cl:Bool}{u x r:List Nat}{its:List ET}(q:Pz h u its x cl r):u=x++r∧(AT its).2.length≤x.length:=by
 induction q with
 |@brk h cl b l u x r its hb _ ih=>
  refine⟨by rw[ih.1,AB],?_⟩
  have:0<b.length:=FP.mpr (fun e=>hb.head fun a b' e2 zz zz=>by rw[e] at e2;cases e2)
  rw[AF]
  show(AT _).2.length+1≤_
  have:=ih.2
  lia
 |ebrk hb _ ih=>
  refine⟨by rw[ih.1,B0,AB],?_⟩
  rw[AQ,AF]
  show(AT _).2.length+1≤_
  have:=ih.2
  lia
 |sign _ _ _ _ ih=>exact⟨by rw[ih.1,B0],Cw ih.2⟩
 |esc _ _ ih=>exact⟨by rw[ih.1];rfl,Cw (Cw ih.2)⟩
 |@code h cl e n v hx u x r its he hl hh hL hv _ ih=>
  refine⟨by rw[ih.1];simp,?_⟩
  rw[AQ,AQ,AF]
  show(AT its).2.length≤_
  have:=ih.2
  lia
 |_=>exact⟨by simp,BX _⟩
section
variable {ns:List Int}{a0:O}{hs:List O}{B:List Nat}
theorem RS {cl:Bool}{u x r:List Nat}{its:List ET}(q:Pz false u its x cl r)(t:Tx B 1 u)(hz:1+u.length≤lim):
  ∃hs' J ri ei,B5 hs hs'∧Iz hs' ri ei J ((AT its).1::(AT its).2.map (·.2)) ((AT its).2.map (·.1))∧
   AN (S ns) 15 45 [.str ⟨B.toArray⟩] [] (a0::hs) (.tup [.obj (ri+1),.obj (ei+1),.bool cl,.tup [.int ((1+x.length:Nat):Int),.int ((AT its).2.length:Int),.int (((1+x.length:Nat):Int) - (hdN x 1 0:Int))]]) (a0::hs'):=by
 obtain⟨H,hH⟩:∃H,H=hs++[O.list []]++[O.list [.obj (hs.length+1)]]++[O.list []]:=⟨_,rfl⟩
 have g0:H[hs.length]? =some (.list []):=by subst hH;rw[AB,AB];exact ga
 have g1:H[(hs++[O.list []]).length]? =some (.list [.obj (hs.length+1)]):=by subst hH;rw[AB];exact ga
 have g2:H[(hs++[O.list []]++[O.list [.obj (hs.length+1)]]).length]? =some (.list []):=by subst hH;exact ga
 have X:B5 hs H:=by subst hH;exact((B5.app hs).trans (B5.app _)).trans (B5.app _)
 have s:E5 hs.length H (hs++[O.list []]).length (hs++[O.list []]++[O.list [.obj (hs.length+1)]]).length [] hs.length [] [] []:=
  ⟨g1,g2,g0,trivial,by simp,by simp,by simp,fun zz h=>(nomatch h),fun zz h=>(nomatch h),by simp⟩
 refine SR (XY (ns:=ns) (a0:=a0) (hd:=0) (sg:=.undef) (sz:=.undef) (td:=.undef) (fg:=.undef) (cc:=.undef) (co:=.undef) q t hz ⟨(fun z=>nomatch z),fun zz=>Nat.one_pos⟩ s Nat.one_pos Nat.one_pos Nat.one_pos rfl rfl rfl rfl rfl rfl) fun sg sz td fg cc co hs' J R K w=>?_
 refine⟨hs',J,_,_,⟨AM X.1 K.1,fun j hj=>(K.2.1 j hj).trans (X.2.1 j hj),fun n=>K.2.2 (X.2.2 n)⟩,R,?_⟩
 have e2:=R.en
 have hle:=OK x (p:=1) (hd:=0) (BX _)
 have hz':1+u.length≤1000000:=hz
 have hx:x.length≤u.length:=by rw[(L4 q).1,AF];exact BM _ _
 have hr:(AT its).2.length≤x.length:=(L4 q).2
 have b2:BF (AC sV (AC (fun x=>x.fst) (AT its).snd)).length=true:=At (by rw[AH,AH];exact AM hr (AM hx (AM (BW _ 1) hz')))
 have b1:decide (((1+x.length:Nat):Int).natAbs<1073741824∧(hdN x 1 0:Int).natAbs<1073741824)=true:=decide_eq_true ⟨Bk (AM (FO hx 1) hz') (by decide),Bk (AM hle (AM (FO hx 1) hz')) (by decide)⟩
 subst hH
 suffices h:AN (S ns) 15 45 [.str ⟨B.toArray⟩] [] (a0::hs) (.tup [_,_,.bool cl,.tup [.int ((1+x.length:Nat):Int),.int ((AC sV (AC (fun x=>x.fst) (AT its).snd)).length:Int),.int (((1+x.length:Nat):Int) - (hdN x 1 0:Int))]]) (a0::hs') by
  rw[AH,AH] at h;exact h
 exact AN.by [.a 6,.w (Fl.next) (St.mk (BQ B (A9 (hs++[O.list []])) (A9 (hs++[O.list []]++[O.list [V.obj (A9 hs+1)]])) (hdN x 1 0) (1+A9 x) cl false sg sz td fg cc co) (a0::hs')),.v .ob (O.list (AC sV ([]++AC (fun x=>Fa x) (Prod.snd (AT its))))),.t] (an w (an e2 (an b2 trivial))) (by kernel_rfl)
end
noncomputable def Ht:Stmt:=Bv (C9 46) 1
noncomputable def W1:Stmt:=Bv (wB Ht) 0
noncomputable def W2:Stmt:=Bv (wB Ht) 1
noncomputable def bP:Stmt:=Bv (wB Ht) 2
noncomputable def D5:Stmt:=Bv (C9 46) 3
noncomputable abbrev C7 (ri ei bi:Nat)(k row val said emp:V):List (Str×V):=[("rows",.obj (ri+1)),("ends",.obj (ei+1)),("bare",.obj (bi+1)),("k",k),("row",row),("value",val),("said",said),("empty",emp),("enumerate",.ty "enumerate"),("len",.bi "len")]
theorem VM {n:Nat}(h:n+1≤lim):DV 0 (n+1)=some 0:=by
 have h':n+1≤1000000:=h
 unfold DV
 rw[if_pos h',if_pos (by decide),if_pos (by lia)]
 rfl
theorem TJ {α:Type}(x:α)(l:List α):Ad (x::l) (min 1 (x::l).length) (x::l).length=l:=by
 unfold Ad
 rw[List.take_length,ES (by rw[AQ];lia)]
 rfl
section
variable {ns:List Int}{a0:O}{ri ei bi k:Nat}{val said emp:V}
theorem X0 (hk:0<k):∀{row:Ax} {hs:List O} {j:Nat},hs[j]? =some (.list (row.map Av))→row.length≤lim→
  ∃j' hs',B5 hs hs'∧hs'[j']? =some (.list ((DX row).map Av))∧BC (S ns) 15 (wT W1) (wB W1) ⟨C7 ri ei bi (.int (k:Int)) (.obj (j+1)) val said emp,a0::hs⟩ .next ⟨C7 ri ei bi (.int (k:Int)) (.obj (j'+1)) val said emp,a0::hs'⟩:=by
 have q:=VC hk
 intro row
 induction row with
 |nil=>
  intro hs j h hz
  refine⟨j,hs,B5.refl _,h,?_⟩
  exact BC.by [.t,.v .ob (O.list (AC Av [])),.a 3] (an q (an h trivial)) (by kernel_rfl)
 |cons c row ih=>
  intro hs j h hz
  obtain⟨c,f⟩:=c
  have k0:=VM (n:=(row.map Av).length) (by rw[AH];exact hz)
  have ok:BF (AC Av ((c,f)::row)).length=true:=At (by rw[AH];exact hz)
  rcases f with _|_
  ·
   refine BJ (ih (hs:=hs++[O.list (row.map Av)]) (j:=hs.length) ga (G3 hz)) fun j' hs' x g w=>?_
   refine⟨j',hs',(B5.app hs).trans x,g,?_⟩
   have sl:Ad (AC Av ((c,false)::row)) (min 1 (AC Av ((c,false)::row)).length) (AC Av ((c,false)::row)).length=AC Av row:=TJ _ _
   refine BC.go (s1:=St.mk [(A8 "rows",V.obj (ri+1)),(A8 "ends",V.obj (ei+1)),(A8 "bare",V.obj (bi+1)),(A8 "k",V.int (↑k:Int)),(A8 "row",V.obj (A9 hs+1)),(A8 "value",val),(A8 "said",said),(A8 "empty",emp),(A8 "enumerate",V.ty "enumerate"),(A8 "len",V.bi "len")] (a0::(hs++[O.list (Ad (AC Av ((c,false)::row)) (min 1 (A9 (AC Av ((c,false)::row)))) (A9 (AC Av ((c,false)::row))))]))) [.t,.v .ob (O.list (AC Av ((c,false)::row))),.t,.t,.v .ob (O.list (AC Av ((c,false)::row))),.v .nat (0),.a 5,.v .ob (O.list (AC Av ((c,false)::row))),.t,.v .nat (min 1 (A9 (AC Av ((c,false)::row)))),.a 2] ?_ (an q (an h (an ok (an HP (an h (an k0 (an h (an ok (an (Aw (n:=A9 (AC Av ((c,false)::row))) (k:=1) (d:=0)) trivial))))))))) (by kernel_rfl)
   rw[sl]
   exact w
  ·
   refine⟨j,hs,B5.refl _,h,?_⟩
   exact BC.by [.t,.v .ob (O.list (AC Av ((c,true)::row))),.t,.t,.v .ob (O.list (AC Av ((c,true)::row))),.v .nat (0),.a 5] (an q (an h (an ok (an HP (an h (an k0 trivial)))))) (by kernel_rfl)
end
theorem E4 {n k:Nat}(h:n≤lim)(hk:k<n):DV (k:Int) n=some k:=by
 have h':n≤1000000:=h
 unfold DV
 rw[if_pos h',if_pos (by lia),if_pos (by lia)]
 rfl
theorem GE (l:List Nat):decide ((⟨l.toArray⟩:Str)=A8 "")=decide (l=[]):=by
 rcases l with _|⟨c,l⟩
 ·decide+kernel
 ·exact(Ju (l:=c::l) (L:=[]) (by decide) (fun z=>nomatch z)).trans (decide_eq_false (fun z=>nomatch z)).symm
section
variable {ns:List Int}{a0:O}{hs:List O}{ri ei bi k j:Nat}{val said emp row:V}{es:List (List Nat)}
theorem TF:BC (S ns) 15 (wT W1) (wB W1) ⟨C7 ri ei bi (.int ((0:Nat):Int)) row val said emp,a0::hs⟩ .next ⟨C7 ri ei bi (.int ((0:Nat):Int)) row val said emp,a0::hs⟩:=by
 exact BC.by [.a 2] trivial (by kernel_rfl)
theorem TD (he:hs[ei]? =some (.list (es.map sV)))(hz:es.length≤lim)(hk:es.length≤k):BC (S ns) 15 (wT W2) (wB W2) ⟨C7 ri ei bi (.int (k:Int)) row val said emp,a0::hs⟩ .next ⟨C7 ri ei bi (.int (k:Int)) row val said emp,a0::hs⟩:=by
 have b:BF (es.map sV).length=true:=At (by rw[AH];exact hz)
 have q:decide ((k:Int)<((es.map sV).length:Int))=false:=decide_eq_false (by rw[AH];lia)
 exact BC.by [.v .ob (O.list (AC sV es)),.t,.f,.a 1] (an he (an b (an q trivial))) (by kernel_rfl)
theorem TC (he:hs[ei]? =some (.list (es.map sV)))(hz:es.length≤lim)(hk:es[k]? =some []):BC (S ns) 15 (wT W2) (wB W2) ⟨C7 ri ei bi (.int (k:Int)) row val said emp,a0::hs⟩ .next ⟨C7 ri ei bi (.int (k:Int)) row val said emp,a0::hs⟩:=by
 have b:BF (es.map sV).length=true:=At (by rw[AH];exact hz)
 have lt:=(AI.mp hk).1
 have q:decide ((k:Int)<((es.map sV).length:Int))=true:=decide_eq_true (by rw[AH];lia)
 have k1:DV (k:Int) (es.map sV).length=some k:=E4 (by rw[AH];exact hz) (by rw[AH];exact lt)
 have k2:(es.map sV)[k]? =some (sV []):=by rw[Aj,hk];rfl
 have k3:=GE []
 exact BC.by [.v .ob (O.list (AC sV es)),.t,.t,.v .ob (O.list (AC sV es)),.v .nat (k),.v .val (sV []),.a 2] (an he (an b (an q (an he (an k1 (an k2 trivial)))))) (by kernel_rfl)
end
theorem Mj (rr:Ax):Ex rr.reverse=(rr.dropWhile fun p=> !p.2).reverse:=by
 unfold Ex
 rw[F6]
section
variable {ns:List Int}{a0:O}{ri ei bi k:Nat}{val said emp:V}{es:List (List Nat)}{l:List Nat}
theorem TB (hz:es.length≤lim)(hk:es[k]? =some l)(hl:l≠[]):∀{rr:Ax} {hs:List O} {j:Nat},hs[ei]? =some (.list (es.map sV))→hs[j]? =some (.list (rr.reverse.map Av))→rr.length≤lim→
  ∃j' hs',B5 hs hs'∧hs'[j']? =some (.list ((Ex rr.reverse).map Av))∧BC (S ns) 15 (wT W2) (wB W2) ⟨C7 ri ei bi (.int (k:Int)) (.obj (j+1)) val said emp,a0::hs⟩ .next ⟨C7 ri ei bi (.int (k:Int)) (.obj (j'+1)) val said emp,a0::hs'⟩:=by
 have b:BF (es.map sV).length=true:=At (by rw[AH];exact hz)
 have lt:=(AI.mp hk).1
 have q:decide ((k:Int)<((es.map sV).length:Int))=true:=decide_eq_true (by rw[AH];lia)
 have k1:DV (k:Int) (es.map sV).length=some k:=E4 (by rw[AH];exact hz) (by rw[AH];exact lt)
 have k2:(es.map sV)[k]? =some (sV l):=by rw[Aj,hk];rfl
 have k3:decide ((⟨l.toArray⟩:Str)=A8 "")=false:=(GE l).trans (decide_eq_false hl)
 intro rr
 induction rr with
 |nil=>
  intro hs j he h hn
  refine⟨j,hs,B5.refl _,h,?_⟩
  have h:hs[j]? =some (.list []):=h
  exact BC.by [.v .ob (O.list (AC sV es)),.t,.t,.v .ob (O.list (AC sV es)),.v .nat (k),.v .val (sV l),.t,.v .ob (O.list []),.a 3] (an he (an b (an q (an he (an k1 (an k2 (an (congrArg not k3) (an h trivial)))))))) (by kernel_rfl)
 |cons c rr ih=>
  intro hs j he h hn
  obtain⟨c,f⟩:=c
  have hn':rr.length+1≤lim:=hn
  have e:(((c,f)::rr).reverse).map Av=rr.reverse.map Av++[Av (c,f)]:=by rw[List.reverse_cons,Aa];rfl
  have hl:(rr.reverse.map Av++[Av (c,f)]).length=rr.length+1:=by simp
  have k4:=LC (n:=rr.length) hn
  rw[←hl] at k4
  have k5:(rr.reverse.map Av++[Av (c,f)])[rr.length]? =some (Av (c,f)):=by rw[C2 (by simp)];simp
  have ok:BF (rr.reverse.map Av++[Av (c,f)]).length=true:=At (by rw[hl];exact hn)
  have k6:decide ((rr.reverse.map Av++[Av (c,f)]).length≠0)=true:=decide_eq_true (by rw[hl];lia)
  rw[e] at h
  rcases f with _|_
  ·
   have x1:=B5.app hs (o:=O.list (rr.reverse.map Av))
   refine BJ (ih (hs:=hs++[O.list (rr.reverse.map Av)]) (j:=hs.length) (x1.get he) ga (G3 hn)) fun j' hs' x g w=>?_
   refine⟨j',hs',x1.trans x,?_,?_⟩
   ·rw[Mj] at g ⊢;exact g
   ·have sl:Ad (AC Av rr.reverse++[Av (c,false)]) 0 (if(0:Int)≤-1 then min (-1:Int).toNat (AC Av rr.reverse++[Av (c,false)]).length else(-1+((AC Av rr.reverse++[Av (c,false)]).length:Int)).toNat)=AC Av rr.reverse:=by
     rw[if_neg (by decide),hl]
     unfold Ad
     rw[List.drop_zero,show(-1+((rr.length+1:Nat):Int)).toNat=(AC Av rr.reverse).length by simp;lia,List.take_left]
    refine BC.go (s1:=St.mk [(A8 "rows",V.obj (ri+1)),(A8 "ends",V.obj (ei+1)),(A8 "bare",V.obj (bi+1)),(A8 "k",V.int (↑k:Int)),(A8 "row",V.obj (A9 hs+1)),(A8 "value",val),(A8 "said",said),(A8 "empty",emp),(A8 "enumerate",V.ty "enumerate"),(A8 "len",V.bi "len")] (a0::(hs++[O.list (Ad (AC Av (EG rr)++[Av (c,false)]) 0 (if 0≤-1 then min (E9 (-1)) (A9 (AC Av (EG rr)++[Av (c,false)])) else E9 (-1+(↑(A9 (AC Av (EG rr)++[Av (c,false)])):Int))))]))) [.v .ob (O.list (AC sV es)),.t,.t,.v .ob (O.list (AC sV es)),.v .nat (k),.v .val (sV l),.t,.v .ob (O.list (AC Av (EG rr)++[Av (c,false)])),.t,.t,.v .ob (O.list (AC Av (EG rr)++[Av (c,false)])),.v .nat (A9 rr),.v .val (Av (c,false)),.a 4,.v .ob (O.list (AC Av (EG rr)++[Av (c,false)])),.t,.a 3] ?_ (an he (an b (an q (an he (an k1 (an k2 (an (congrArg not k3) (an h (an ok (an k6 (an h (an k4 (an k5 (an h (an ok trivial))))))))))))))) (by kernel_rfl)
    rw[sl]
    exact w
  ·
   refine⟨j,hs,B5.refl _,?_,?_⟩
   ·rw[Mj]
    show _=some (O.list (AC Av ((c,true)::rr).reverse))
    rw[e];exact h
   ·exact BC.by [.v .ob (O.list (AC sV es)),.t,.t,.v .ob (O.list (AC sV es)),.v .nat (k),.v .val (sV l),.t,.v .ob (O.list (AC Av (EG rr)++[Av (c,true)])),.t,.t,.v .ob (O.list (AC Av (EG rr)++[Av (c,true)])),.v .nat (A9 rr),.v .val (Av (c,true)),.a 4] (an he (an b (an q (an he (an k1 (an k2 (an (congrArg not k3) (an h (an ok (an k6 (an h (an k4 (an k5 trivial))))))))))))) (by kernel_rfl)
end
noncomputable def Vb:Expr→Expr
 | .Call _ [x] _ _=>x
 |e=>e
set_option backward.match.sparseCases false in
noncomputable def Yu:Stmt→Expr
 | .Expr e _=>e
 |_=>.Name "" default
noncomputable def MQ:Expr:=Vb (Vb (Yu bP))
noncomputable abbrev KY (a b:V):List (Str×V):=[(".0",.undef),("sign",a),("fast",b)]
section
variable {ns:List Int}{a0:O}{i j:Nat}
theorem Eh {n m:Nat}(h:n≤m):D4 n m=true:=Nat.ble_eq.mpr h
theorem Z8 (hij:i≠j):∀{suf pre:Ax} {acc:List Nat} {hs:List O} {a b:V},Az a=true→Az b=true→hs[j]? =some (.list ((pre++suf).map Av))→hs[i]? =some (.list (acc.map Ai))→acc.length+suf.length≤lim→
  ∃a' b',Ea (S ns) 15 (IA MQ) (Hy MQ) [] (.list (j+1) false) pre.length (i+1) ⟨KY a b,a0::hs⟩ ⟨KY a' b',a0::hs.set i (.list ((acc++suf.map (·.1)).map Ai))⟩:=by
 intro suf
 induction suf with
 |nil=>
  intro pre acc hs a b oa ob hj hi hz
  have k0:D4 pre.length ((pre++[]).map Av).length=true:=Eh (by simp)
  have k:some ((((pre++[]).map Av)[pre.length]?).map (Fw false pre.length))=some none:=by simp
  rw[show acc++AC (·.1) ([]:Ax)=acc from AK _,Kx hi]
  refine⟨a,b,?_⟩
  exact Ea.by [.v .ob (O.list (AC Av (pre++[]))),.t,.v .oval (none)] (an hj (an k0 (an k trivial))) (by kernel_rfl)
 |cons c suf ih=>
  intro pre acc hs a b oa ob hj hi hz
  obtain⟨c,f⟩:=c
  have k0:D4 pre.length ((pre++(c,f)::suf).map Av).length=true:=Eh (by simp)
  have k:some ((((pre++(c,f)::suf).map Av)[pre.length]?).map (Fw false pre.length))=some (some (.tup [Ai c,.bool f])):=by simp;rfl
  have ok:BF (acc.map Ai).length=true:=At (by rw[AH];exact AM (BM _ _) hz)
  have hi2:(hs.set i (.list (acc.map Ai++[Ai c])))[i]? =some (.list ((acc++[c]).map Ai)):=by rw[Aa];exact gs hi
  have hj2:(hs.set i (.list (acc.map Ai++[Ai c])))[j]? =some (.list (((pre++[(c,f)])++suf).map Av)):=by rw[AB];exact gn hij hj
  refine JU (ih (pre:=pre++[(c,f)]) (acc:=acc++[c]) (a:=Ai c) (b:=.bool f) rfl rfl hj2 hi2 (by rw[AF,BZ];rw[AQ] at hz;lia)) fun a' b' e=>?_
  rw[AF (bs:=[(c,f)]),Fd,AB] at e
  refine⟨a',b',?_⟩
  have e:Ea (S ns) 15 (IA MQ) (Hy MQ) [] (.list (j+1) false) (pre.length+1) (i+1) ⟨KY (Ai c) (.bool f),a0::hs.set i (.list (acc.map Ai++[Ai c]))⟩ ⟨KY a' b',a0::hs.set i (.list ((acc++AC (·.1) ((c,f)::suf)).map Ai))⟩:=e
  refine Ea.go (s1:=St.mk [(A8 ".0",V.undef),(A8 "sign",V.str (Str.mk #[c])),(A8 "fast",V.bool f)] (a0::Bb hs i (O.list (AC Ai acc++[Ai c])))) [.v .ob (O.list (AC Av (pre++(c,f)::suf))),.t,.v .oval (some (V.tup [Ai c,V.bool f])),.t,.t,.a 1,.v .ob (O.list (AC Ai acc)),.t] ?_ (an hj (an k0 (an k (an (B8 (u:=a) (v:=Ai c) (h:=oa) (h2:=(by rfl))) (an (B8 (u:=b) (v:=V.bool f) (h:=ob) (h2:=(by rfl))) (an hi (an ok trivial))))))) (by kernel_rfl)
  exact e
end
section
variable {ns:List Int}{a0:O}{ri ei bi k:Nat}{val said emp row0 kv:V}{hs:List O}
theorem Wz {L:List (List Nat×Ax)}(hz:L.length≤lim)(he:hs[ei]? =some (.list ((L.map (·.1)).map sV))){row:Ax}{j:Nat}(h:hs[j]? =some (.list (row.map Av)))(hr:row.length≤lim):
  ∃j' hs',B5 hs hs'∧hs'[j']? =some (.list ((bif GJ (L.drop k) then Ex row else row).map Av))∧BC (S ns) 15 (wT W2) (wB W2) ⟨C7 ri ei bi (.int (k:Int)) (.obj (j+1)) val said emp,a0::hs⟩ .next ⟨C7 ri ei bi (.int (k:Int)) (.obj (j'+1)) val said emp,a0::hs'⟩:=by
 have hz2:(L.map (·.1)).length≤lim:=by rw[AH];exact hz
 rcases e:L.drop k with _|⟨p,r⟩
 ·exact⟨j,hs,B5.refl _,h,TD he hz2 (by rw[AH];exact List.drop_eq_nil_iff.mp e)⟩
 ·
  have hp:L[k]? =some p:=by rw[←EF k,←Cj,e];rfl
  have hk:(L.map (·.1))[k]? =some p.1:=by rw[Aj,hp];rfl
  by_cases hl:p.1=[]
  ·rw[show GJ (p::r)=false by show(!p.1.isEmpty)=false;rw[hl];rfl]
   rw[hl] at hk
   exact⟨j,hs,B5.refl _,h,TC he hz2 hk⟩
  ·rw[show GJ (p::r)=true by show(!p.1.isEmpty)=true;rw[List.isEmpty_eq_false_iff.mpr hl];rfl]
   have x:=TB (ns:=ns) (a0:=a0) (ri:=ri) (bi:=bi) (val:=val) (said:=said) (emp:=emp) hz2 hk hl (rr:=row.reverse) (j:=j) he (by rw[F6];exact h) (by rw[List.length_reverse];exact hr)
   rw[F6] at x
   exact x
end
theorem WI (l:List Nat):l.map Ai=(l.map fun c=>[c]).map AV:=by
 rw[DN];rfl
theorem O4 (l:List Nat):(l.map fun c=>[c]).flatten=l:=by
 induction l with
 |nil=>rfl
 |cons c l ih=>exact congrArg (c::·) ih
section
variable {ns:List Int}{a0:O}{ri ei bi k:Nat}{val said emp rw0 kv:V}{hs:List O}
theorem Pw {row:Ax}{j:Nat}(h:hs[j]? =some (.list (row.map Av)))(hr:row.length≤lim):
  ∃j' hs',B5 hs hs'∧hs'[j']? =some (.list ((if k=0 then row else DX row).map Av))∧BC (S ns) 15 (wT W1) (wB W1) ⟨C7 ri ei bi (.int (k:Int)) (.obj (j+1)) val said emp,a0::hs⟩ .next ⟨C7 ri ei bi (.int (k:Int)) (.obj (j'+1)) val said emp,a0::hs'⟩:=by
 by_cases hk:k=0
 ·subst hk
  exact⟨j,hs,B5.refl _,h,TF⟩
 ·rw[if_neg hk]
  exact X0 (Nat.pos_of_ne_zero hk) h hr
theorem Ik (row:Ax):(DX row).length≤row.length:=by
 unfold DX
 exact(List.dropWhile_sublist _).length_le
theorem O1 (row:Ax):(Ex row).length≤row.length:=by
 unfold Ex
 rw[List.length_reverse]
 exact AM (List.dropWhile_sublist _).length_le (Bp List.length_reverse)
theorem Uu {jk:Nat}{row:Ax}{acc:List (List Nat)}{J:List Nat}{L:List (List Nat×Ax)}(hJ:J[k]? =some jk)(hR:hs[ri]? =some (.list (J.map FW)))(hJz:J.length≤lim)(hz:L.length≤lim)(he:hs[ei]? =some (.list ((L.map (·.1)).map sV)))(h:hs[jk]? =some (.list (row.map Av)))(hr:row.length≤lim)(hb:hs[bi]? =some (.list (acc.map sV)))(ha:acc.length≤lim)(o1:Az kv=true)(o2:Az rw0=true):
  ∃j' hs',CY bi hs hs'∧hs'[bi]? =some (.list ((acc++[DT (L.drop k) (if k=0 then row else DX row)]).map sV))∧
   ∀s2,BK (S ns) 15 (wT Ht) (.list (ri+1) true) (k+1) (wB Ht) ⟨C7 ri ei bi (.int (k:Int)) (.obj (j'+1)) val said emp,a0::hs'⟩ .next s2→
    BK (S ns) 15 (wT Ht) (.list (ri+1) true) k (wB Ht) ⟨C7 ri ei bi kv rw0 val said emp,a0::hs⟩ .next s2:=by
 have lt:=(AI.mp hJ).1
 have k0:D4 k (J.map FW).length=true:=Eh (by rw[AH];exact BU lt)
 have k1:some (((J.map FW)[k]?).map (Fw true k))=some (some (.tup [.int (k:Int),.obj (jk+1)])):=by rw[Aj,hJ];rfl
 refine BJ (Pw (ns:=ns) (a0:=a0) (ri:=ri) (ei:=ei) (bi:=bi) (k:=k) (val:=val) (said:=said) (emp:=emp) h hr) fun j1 hs1 x1 g1 w1=>?_
 have l1:(if k=0 then row else DX row).length≤lim:=by split;exact hr;exact AM (Ik row) hr
 refine BJ (Wz (ns:=ns) (a0:=a0) (ri:=ri) (ei:=ei) (bi:=bi) (k:=k) (val:=val) (said:=said) (emp:=emp) hz (x1.get he) g1 l1) fun j2 hs2 x2 g2 w2=>?_
 have l2:(bif GJ (L.drop k) then Ex (if k=0 then row else DX row) else(if k=0 then row else DX row)).length≤lim:=by
  cases GJ (L.drop k)
  ·exact l1
  ·exact AM (O1 _) l1
 generalize hq:(bif GJ (L.drop k) then Ex (if k=0 then row else DX row) else(if k=0 then row else DX row))=qr at g2 l2
 have hj2:=(AI.mp g2).1
 refine JU (Z8 (ns:=ns) (a0:=a0) (i:=hs2.length) (j:=j2) (by lia) (suf:=qr) (pre:=[]) (acc:=[]) (hs:=hs2++[O.list []]) (a:=.undef) (b:=.undef) rfl rfl (gl g2) ga (by rw[BR,CS];exact l2)) fun a' b' e=>?_
 have ht:DT (L.drop k) (if k=0 then row else DX row)=qr.map (·.1):=by unfold DT;rw[hq]
 rw[ht]
 have e:Ea (S ns) 15 (IA MQ) (Hy MQ) [] (.list (j2+1) false) 0 (hs2.length+1) ⟨KY .undef .undef,a0::(hs2++[O.list []])⟩ ⟨KY a' b',a0::(hs2++[O.list []]).set hs2.length (.list ((qr.map (·.1)).map Ai))⟩:=e
 rw[EO,WI] at e
 have hb1:=x2.get (x1.get hb)
 have hb2:=gl (r:=[O.list (((qr.map (·.1)).map fun c=>[c]).map AV)]) (x2.get (x1.get hb))
 have jt:=KP (ys:=(qr.map (·.1)).map fun c=>[c])
 have jo:=MF (ys:=(qr.map (·.1)).map fun c=>[c]) (by rw[O4,AH];exact l2)
 have jf:=I6 ((qr.map (·.1)).map fun c=>[c])
 have ok:BF (acc.map sV).length=true:=At (by rw[AH];exact ha)
 refine⟨j2,_,(((x1.trans x2).trans (B5.app _)).keep.trans (CY.setc _)),gs hb2,fun s2 n=>?_⟩
 rw[Aa] at n
 refine BK.go (s1:=St.mk [(A8 "rows",V.obj (ri+1)),(A8 "ends",V.obj (ei+1)),(A8 "bare",V.obj (bi+1)),(A8 "k",V.int (↑k:Int)),(A8 "row",V.obj (j2+1)),(A8 "value",val),(A8 "said",said),(A8 "empty",emp),(A8 "enumerate",V.ty "enumerate"),(A8 "len",V.bi "len")] (a0::Bb (hs2++[O.list (AC AV (AC (fun c=>[c]) (AC (fun x=>Fa x) qr)))]) bi (O.list (AC sV acc++[V.str (DB (A8 "") (AC (fun y=>Str.mk (AE y)) (AC (fun c=>[c]) (AC (fun x=>Fa x) qr))))])))) [.v .ob (O.list (AC FW J)),.t,.v .oval (some (V.tup [V.int (↑k:Int),V.obj (jk+1)])),.t,.t,.w (Fl.next) (St.mk (C7 ri ei bi (V.int (↑k:Int)) (V.obj (j1+1)) val said emp) (a0::hs1)),.w (Fl.next) (St.mk (C7 ri ei bi (V.int (↑k:Int)) (V.obj (j2+1)) val said emp) (a0::hs2)),.v .ob (O.list (AC sV acc)),.v .ob (O.list (AC Av qr)),.m (St.mk (KY a' b') (a0::(hs2++[O.list (AC AV (AC (fun c=>[c]) (AC (fun x=>Fa x) qr)))]))),.v .ob (O.list (AC AV (AC (fun c=>[c]) (AC (fun x=>Fa x) qr)))),.v .strs (AC (fun y=>Str.mk (AE y)) (AC (fun c=>[c]) (AC (fun x=>Fa x) qr))),.t,.v .ob (O.list (AC sV acc)),.t] ?_ (an hR (an k0 (an k1 (an (B8 (u:=kv) (v:=V.int (↑k:Int)) (h:=o1) (h2:=(by rfl))) (an (B8 (u:=rw0) (v:=V.obj (jk+1)) (h:=o2) (h2:=(by rfl))) (an w1 (an w2 (an hb1 (an g2 (an e (an (ga (l:=hs2) (o:=O.list (AC AV (AC (fun c=>[c]) (AC (fun x=>Fa x) qr)))) (r:=[])) (an jt (an jo (an hb2 (an ok trivial))))))))))))))) (by kernel_rfl)
 rw[jf,O4]
 exact n
end
noncomputable def Dj:Nat→Ax→List (List Nat×Ax)→List (List Nat)
 |k,r,[]=>[DT [] (if k=0 then r else DX r)]
 |k,r,(l,r2)::L=>DT ((l,r2)::L) (if k=0 then r else DX r)::Dj (k+1) r2 L
theorem Cr.lt {hs:List O}:∀{J:List Nat} {R:List Ax},Cr hs J R→∀j∈J,j<hs.length
 |[],[],_,_,h=>nomatch h
 |j::J,r::R,h,x,hx=>by
  rcases AZ.mp hx with e|hx
  ·rw[e];exact(AI.mp h.1).1
  ·exact Cr.lt h.2 x hx
 |[],_::_,h,_,_=>h.elim
 |_::_,[],h,_,_=>h.elim
theorem CY.get {c j:Nat}{h h':List O}{o:O}(x:CY c h h')(hj:j≠c)(e:h[j]? =some o):h'[j]? =some o:=(x.2.1 j hj (AI.mp e).1).trans e
section
variable {ns:List Int}{a0:O}{ri ei bi:Nat}{val said emp:V}
theorem UD {k:Nat}{J:List Nat}{hs:List O}{kv rw0:V}(hR:hs[ri]? =some (.list (J.map FW)))(hk:k=J.length):BK (S ns) 15 (wT Ht) (.list (ri+1) true) k (wB Ht) ⟨C7 ri ei bi kv rw0 val said emp,a0::hs⟩ .next ⟨C7 ri ei bi kv rw0 val said emp,a0::hs⟩:=by
 have k0:D4 k (J.map FW).length=true:=Eh (by rw[AH];exact Bp hk)
 have k1:some (((J.map FW)[k]?).map (Fw true k))=some none:=by rw[Cc (by rw[AH];exact Bp hk.symm)];rfl
 exact BK.by [.v .ob (O.list (AC FW J)),.t,.v .oval (none)] (an hR (an k0 (an k1 trivial))) (by kernel_rfl)
theorem UE {J:List Nat}{L0:List (List Nat×Ax)}(hJz:J.length≤lim)(hz:L0.length≤lim)(n1:ri≠bi)(n2:ei≠bi)(n3:∀j∈J,j≠bi):∀{L2:List (List Nat×Ax)} {k jk:Nat} {J2:List Nat} {row:Ax} {acc:List (List Nat)} {hs:List O} {kv rw0:V},
  L0.drop k=L2→J.drop k=jk::J2→hs[ri]? =some (.list (J.map FW))→hs[ei]? =some (.list ((L0.map (·.1)).map sV))→Cr hs (jk::J2) (row::L2.map (·.2))→(∀r∈row::L2.map (·.2),r.length≤lim)→hs[bi]? =some (.list (acc.map sV))→acc.length=k→Az kv=true→Az rw0=true→
  ∃kv' rw' hs',Az kv'=true∧Az rw'=true∧CY bi hs hs'∧hs'[bi]? =some (.list ((acc++Dj k row L2).map sV))∧BK (S ns) 15 (wT Ht) (.list (ri+1) true) k (wB Ht) ⟨C7 ri ei bi kv rw0 val said emp,a0::hs⟩ .next ⟨C7 ri ei bi kv' rw' val said emp,a0::hs'⟩:=by
 intro L2
 induction L2 with
 |nil=>
  intro k jk J2 row acc hs kv rw0 eL eJ hR he hA hr hb ha o1 o2
  cases J2 with
  |cons y z=>exact hA.2.elim
  |nil=>
  have hJ:J[k]? =some jk:=by rw[←EF k,←Cj,eJ];rfl
  have lt:=(AI.mp hJ).1
  refine BJ (Uu (ns:=ns) (a0:=a0) (ri:=ri) (ei:=ei) (bi:=bi) (val:=val) (said:=said) (emp:=emp) hJ hR hJz hz he hA.1 (hr _ (.head _)) hb (by lia) o1 o2) fun j' hs' K g w=>?_
  have hl:k+1=J.length:=by have:=congrArg A9 eJ;rw[Ci] at this;rw[Nat.eq_add_of_sub_eq (BU lt) this];exact BY k 1
  rw[eL] at g
  exact⟨_,_,hs',rfl,rfl,K,g,w _ (UD (K.get n1 hR) hl)⟩
 |cons p L2 ih=>
  intro k jk J2 row acc hs kv rw0 eL eJ hR he hA hr hb ha o1 o2
  rcases J2 with _|⟨y,z⟩
  ·exact hA.2.elim
  have hJ:J[k]? =some jk:=by rw[←EF k,←Cj,eJ];rfl
  have lt:=(AI.mp hJ).1
  refine BJ (Uu (ns:=ns) (a0:=a0) (ri:=ri) (ei:=ei) (bi:=bi) (val:=val) (said:=said) (emp:=emp) hJ hR hJz hz he hA.1 (hr _ (.head _)) hb (by lia) o1 o2) fun j' hs' K g w=>?_
  rw[eL] at g
  have eL2:L0.drop (k+1)=L2:=by rw[←Be,eL];rfl
  have eJ2:J.drop (k+1)=y::z:=by rw[←Be,eJ];rfl
  have hA2:Cr hs' (y::z) (p.2::L2.map (·.2)):=Cr.keep hA.2 fun j hj=>K.2.1 j (n3 j (List.mem_of_mem_drop (eJ2▸hj))) (Cr.lt hA.2 j hj)
  refine LQ (ih (kv:=.int (k:Int)) (rw0:=.obj (j'+1)) eL2 eJ2 (K.get n1 hR) (K.get n2 he) hA2 (fun r h=>hr r (.tail _ h)) g (by rw[AF,BZ,ha]) rfl rfl) fun kv' rw' hs2 ok1 ok2 K2 g2 w2=>?_
  refine⟨kv',rw',hs2,ok1,ok2,K.trans K2,?_,w _ w2⟩
  rw[AB] at g2
  exact g2
end
theorem M8 (l:List Nat):decide ((⟨l.toArray⟩:Str)=A8 "\n")=decide (l=[10]):=by
 rw[show A8 "\n"=(⟨[10].toArray⟩:Str) by decide+kernel]
 by_cases h:l=[10]
 ·rw[h];rfl
 ·rw[decide_eq_false h,decide_eq_false (fun e=>h (by have:=congrArg (fun s:Str=>s.cps.toList) e;simpa using this))]
theorem EJ (a b:List Nat):(⟨a.toArray⟩:Str)++(⟨b.toArray⟩:Str)=⟨(a++b).toArray⟩:=by
 show(⟨a.toArray++b.toArray⟩:Str)=_
 rw[List.append_toArray]
section
variable {ns:List Int}{a0:O}{ri ei bi k:Nat}{row emp kv sd:V}{hs:List O}
theorem Qv {l v b:List Nat}{es Bs:List (List Nat)}(hl:es[k]? =some l)(hn:l≠[10])(hE:hs[ei]? =some (.list (es.map sV)))(hB:hs[bi]? =some (.list (Bs.map sV)))(hz:es.length≤lim)(hBz:Bs.length≤lim)(hb:Bs[k+1]? =some b)(hv:v.length+l.length+b.length≤lim)(o1:Az kv=true)(o2:Az sd=true){s2:St}
  (n:BK (S ns) 15 (wT D5) (.list (ei+1) true) (k+1) (wB D5) ⟨C7 ri ei bi (.int (k:Int)) row (sV (v++(l++b))) (sV l) emp,a0::hs⟩ .next s2):
  BK (S ns) 15 (wT D5) (.list (ei+1) true) k (wB D5) ⟨C7 ri ei bi kv row (sV v) sd emp,a0::hs⟩ .next s2:=by
 have lt:=(AI.mp hl).1
 have lb:=(AI.mp hb).1
 have k0:D4 k (es.map sV).length=true:=Eh (by rw[AH];exact BU lt)
 have k1:some (((es.map sV)[k]?).map (Fw true k))=some (some (.tup [.int (k:Int),sV l])):=by rw[Aj,hl];rfl
 have q1:=(M8 l).trans (decide_eq_false hn)
 have i1:DV ((k+1:Nat):Int) (Bs.map sV).length=some (k+1):=E4 (by rw[AH];exact hBz) (by rw[AH];exact lb)
 have i2:(Bs.map sV)[k+1]? =some (sV b):=by rw[Aj,hb];rfl
 have z1:BF (((⟨v.toArray⟩:Str)++(⟨l.toArray⟩:Str)).cps.size+b.length)=true:=by rw[EJ];exact At (by show(v++l).toArray.size+_≤_;rw[Au,AF];exact hv)
 have e3:V.str ((⟨v.toArray⟩:Str)++(⟨l.toArray⟩:Str)++(⟨b.toArray⟩:Str))=sV (v++(l++b)):=by rw[EJ,EJ,AB]
 refine BK.go (s1:=St.mk [(A8 "rows",V.obj (ri+1)),(A8 "ends",V.obj (ei+1)),(A8 "bare",V.obj (bi+1)),(A8 "k",V.int (↑k:Int)),(A8 "row",row),(A8 "value",V.str (Str.mk (AE v)++Str.mk (AE l)++Str.mk (AE b))),(A8 "said",V.str (Str.mk (AE l))),(A8 "empty",emp),(A8 "enumerate",V.ty "enumerate"),(A8 "len",V.bi "len")] (a0::hs)) [.v .ob (O.list (AC sV es)),.t,.v .oval (some (V.tup [V.int (↑k:Int),sV l])),.t,.t,.f,.a 1,.t,.v .ob (O.list (AC sV Bs)),.v .nat (k+1),.v .val (sV b),.t,.a 1] ?_ (an hE (an k0 (an k1 (an (B8 (u:=kv) (v:=V.int (↑k:Int)) (h:=o1) (h2:=(by rfl))) (an (B8 (u:=sd) (v:=sV l) (h:=o2) (h2:=(by rfl))) (an q1 (an (At (n:=A9 v+A9 l) (h:=(by lia))) (an hB (an i1 (an i2 (an z1 trivial))))))))))) (by kernel_rfl)
 rw[e3]
 exact n
end
section
variable {ns:List Int}{a0:O}{ri ei bi k:Nat}{row emp kv sd:V}{hs:List O}
theorem Qw {v b:List Nat}{es Bs:List (List Nat)}(hl:es[k]? =some [10])(hk:k≠0)(hb0:Bs[k]? =some [])(hE:hs[ei]? =some (.list (es.map sV)))(hB:hs[bi]? =some (.list (Bs.map sV)))(hz:es.length≤lim)(hBz:Bs.length≤lim)(hb:Bs[k+1]? =some b)(hv:v.length+1+b.length≤lim)(o1:Az kv=true)(o2:Az sd=true){s2:St}
  (n:BK (S ns) 15 (wT D5) (.list (ei+1) true) (k+1) (wB D5) ⟨C7 ri ei bi (.int (k:Int)) row (sV (v++([10]++b))) (sV [10]) emp,a0::hs⟩ .next s2):
  BK (S ns) 15 (wT D5) (.list (ei+1) true) k (wB D5) ⟨C7 ri ei bi kv row (sV v) sd emp,a0::hs⟩ .next s2:=by
 have lt:=(AI.mp hl).1
 have lb:=(AI.mp hb).1
 have k0:D4 k (es.map sV).length=true:=Eh (by rw[AH];exact BU lt)
 have k1:some (((es.map sV)[k]?).map (Fw true k))=some (some (.tup [.int (k:Int),sV [10]])):=by rw[Aj,hl];rfl
 have q1:=(M8 [10]).trans (decide_eq_true rfl)
 have q2:decide ((k:Int)=0)=false:=decide_eq_false (by lia)
 have q3:=(GE []).trans (decide_eq_true rfl)
 have i1:DV ((k+1:Nat):Int) (Bs.map sV).length=some (k+1):=E4 (by rw[AH];exact hBz) (by rw[AH];exact lb)
 have i2:(Bs.map sV)[k+1]? =some (sV b):=by rw[Aj,hb];rfl
 have i3:DV (k:Int) (Bs.map sV).length=some k:=E4 (by rw[AH];exact hBz) (by rw[AH];lia)
 have i4:(Bs.map sV)[k]? =some (sV []):=by rw[Aj,hb0];rfl
 have z0:BF (v.length+([10]:List Nat).length)=true:=At (AM (BM _ b.length) hv)
 have z1:BF (((⟨v.toArray⟩:Str)++(⟨[10].toArray⟩:Str)).cps.size+b.length)=true:=by rw[EJ];exact At (by show(v++[10]).toArray.size+_≤_;rw[Au,AF];exact hv)
 have e3:V.str ((⟨v.toArray⟩:Str)++(⟨[10].toArray⟩:Str)++(⟨b.toArray⟩:Str))=sV (v++([10]++b)):=by rw[EJ,EJ,AB]
 refine BK.go (s1:=St.mk [(A8 "rows",V.obj (ri+1)),(A8 "ends",V.obj (ei+1)),(A8 "bare",V.obj (bi+1)),(A8 "k",V.int (↑k:Int)),(A8 "row",row),(A8 "value",V.str (Str.mk (AE v)++Str.mk #[10]++Str.mk (AE b))),(A8 "said",V.str (Str.mk #[10])),(A8 "empty",emp),(A8 "enumerate",V.ty "enumerate"),(A8 "len",V.bi "len")] (a0::hs)) [.v .ob (O.list (AC sV es)),.t,.v .oval (some (V.tup [V.int (↑k:Int),sV [10]])),.t,.t,.a 1,.f,.v .ob (O.list (AC sV Bs)),.v .nat (k),.v .val (sV []),.a 3,.t,.v .ob (O.list (AC sV Bs)),.v .nat (k+1),.v .val (sV b),.t,.a 1] ?_ (an hE (an k0 (an k1 (an (B8 (u:=kv) (v:=V.int (↑k:Int)) (h:=o1) (h2:=(by rfl))) (an (B8 (u:=sd) (v:=sV [10]) (h:=o2) (h2:=(by rfl))) (an q2 (an hB (an i3 (an i4 (an z0 (an hB (an i1 (an i2 (an z1 trivial)))))))))))))) (by kernel_rfl)
 rw[e3]
 exact n
end
theorem M4:A8 " "=(⟨[32].toArray⟩:Str):=by decide+kernel
section
variable {ns:List Int}{a0:O}{ri ei bi k:Nat}{row emp kv sd:V}{hs:List O}
theorem T1 {v b:List Nat}{es Bs:List (List Nat)}(hl:es[k]? =some [10])(hp:k=0∨∃b0,Bs[k]? =some b0∧b0≠[])(hx:es.length≤k+1)(hE:hs[ei]? =some (.list (es.map sV)))(hB:hs[bi]? =some (.list (Bs.map sV)))(hz:es.length≤lim)(hBz:Bs.length≤lim)(hb:Bs[k+1]? =some b)(hv:v.length+1+b.length≤lim)(o1:Az kv=true)(o2:Az sd=true)(o3:Az emp=true):
  ∃em w,Az em=true∧Az w=true∧∀s2,BK (S ns) 15 (wT D5) (.list (ei+1) true) (k+1) (wB D5) ⟨C7 ri ei bi (.int (k:Int)) row (sV (v++([32]++b))) w em,a0::hs⟩ .next s2→
   BK (S ns) 15 (wT D5) (.list (ei+1) true) k (wB D5) ⟨C7 ri ei bi kv row (sV v) sd emp,a0::hs⟩ .next s2:=by
 have lt:=(AI.mp hl).1
 have lb:=(AI.mp hb).1
 have k0:D4 k (es.map sV).length=true:=Eh (by rw[AH];exact BU lt)
 have k1:some (((es.map sV)[k]?).map (Fw true k))=some (some (.tup [.int (k:Int),sV [10]])):=by rw[Aj,hl];rfl
 have q1:=(M8 [10]).trans (decide_eq_true rfl)
 have i1:DV ((k+1:Nat):Int) (Bs.map sV).length=some (k+1):=E4 (by rw[AH];exact hBz) (by rw[AH];exact lb)
 have i2:(Bs.map sV)[k+1]? =some (sV b):=by rw[Aj,hb];rfl
 have okE:BF (es.map sV).length=true:=At (by rw[AH];exact hz)
 have x1:decide (((k+1:Nat):Int)<((es.map sV).length:Int))=false:=decide_eq_false (by rw[AH];lia)
 have z0:BF (v.length+(A8 " ").cps.size)=true:=At (AM (BM _ b.length) hv)
 have z1:BF (((⟨v.toArray⟩:Str)++A8 " ").cps.size+b.length)=true:=by rw[M4,EJ];exact At (by show(v++[32]).toArray.size+_≤_;rw[Au,AF];exact hv)
 have e3:V.str ((⟨v.toArray⟩:Str)++A8 " "++(⟨b.toArray⟩:Str))=sV (v++([32]++b)):=by rw[M4,EJ,EJ,AB]
 refine⟨.bool (decide (((k+1:Nat):Int)<((es.map sV).length:Int))),.str (A8 " "),rfl,rfl,fun s2 n=>?_⟩
 rcases hp with hp|⟨b0,hb0,hp⟩
 ·subst hp
  refine BK.go (s1:=St.mk [(A8 "rows",V.obj (ri+1)),(A8 "ends",V.obj (ei+1)),(A8 "bare",V.obj (bi+1)),(A8 "k",V.int (↑0:Int)),(A8 "row",row),(A8 "value",V.str (Str.mk (AE v)++A8 " "++Str.mk (AE b))),(A8 "said",V.str (A8 " ")),(A8 "empty",V.bool (decide ((↑(0+1):Int)<(↑(A9 (AC sV es)):Int)))),(A8 "enumerate",V.ty "enumerate"),(A8 "len",V.bi "len")] (a0::hs)) [.v .ob (O.list (AC sV es)),.a 1,.v .oval (some (V.tup [V.int (↑0:Int),sV [10]])),.t,.t,.a 4,.v .ob (O.list (AC sV es)),.t,.f,.t,.f,.a 1,.t,.v .ob (O.list (AC sV Bs)),.v .nat (0+1),.v .val (sV b),.t,.a 1] ?_ (an hE (an k1 (an (B8 (u:=kv) (v:=V.int (↑0:Int)) (h:=o1) (h2:=(by rfl))) (an (B8 (u:=sd) (v:=sV [10]) (h:=o2) (h2:=(by rfl))) (an hE (an okE (an x1 (an (B8 (u:=emp) (v:=V.bool (decide ((↑(0+1):Int)<(↑(A9 (AC sV es)):Int)))) (h:=o3) (h2:=(by rfl))) (an x1 (an z0 (an hB (an i1 (an i2 (an z1 trivial)))))))))))))) (by kernel_rfl)
  rw[e3]
  exact n
 ·have i3:DV (k:Int) (Bs.map sV).length=some k:=E4 (by rw[AH];exact hBz) (by rw[AH];lia)
  have i4:(Bs.map sV)[k]? =some (sV b0):=by rw[Aj,hb0];rfl
  have q3:=(GE b0).trans (decide_eq_false hp)
  by_cases hk:k=0
  ·subst hk
   refine BK.go (s1:=St.mk [(A8 "rows",V.obj (ri+1)),(A8 "ends",V.obj (ei+1)),(A8 "bare",V.obj (bi+1)),(A8 "k",V.int (↑0:Int)),(A8 "row",row),(A8 "value",V.str (Str.mk (AE v)++A8 " "++Str.mk (AE b))),(A8 "said",V.str (A8 " ")),(A8 "empty",V.bool (decide ((↑(0+1):Int)<(↑(A9 (AC sV es)):Int)))),(A8 "enumerate",V.ty "enumerate"),(A8 "len",V.bi "len")] (a0::hs)) [.v .ob (O.list (AC sV es)),.a 1,.v .oval (some (V.tup [V.int (↑0:Int),sV [10]])),.t,.t,.a 4,.v .ob (O.list (AC sV es)),.t,.f,.t,.f,.a 1,.t,.v .ob (O.list (AC sV Bs)),.v .nat (0+1),.v .val (sV b),.t,.a 1] ?_ (an hE (an k1 (an (B8 (u:=kv) (v:=V.int (↑0:Int)) (h:=o1) (h2:=(by rfl))) (an (B8 (u:=sd) (v:=sV [10]) (h:=o2) (h2:=(by rfl))) (an hE (an okE (an x1 (an (B8 (u:=emp) (v:=V.bool (decide ((↑(0+1):Int)<(↑(A9 (AC sV es)):Int)))) (h:=o3) (h2:=(by rfl))) (an x1 (an z0 (an hB (an i1 (an i2 (an z1 trivial)))))))))))))) (by kernel_rfl)
   rw[e3]
   exact n
  ·have q2:decide ((k:Int)=0)=false:=decide_eq_false (by lia)
   refine BK.go (s1:=St.mk [(A8 "rows",V.obj (ri+1)),(A8 "ends",V.obj (ei+1)),(A8 "bare",V.obj (bi+1)),(A8 "k",V.int (↑k:Int)),(A8 "row",row),(A8 "value",V.str (Str.mk (AE v)++A8 " "++Str.mk (AE b))),(A8 "said",V.str (A8 " ")),(A8 "empty",V.bool (decide ((↑(k+1):Int)<(↑(A9 (AC sV es)):Int)))),(A8 "enumerate",V.ty "enumerate"),(A8 "len",V.bi "len")] (a0::hs)) [.v .ob (O.list (AC sV es)),.t,.v .oval (some (V.tup [V.int (↑k:Int),sV [10]])),.t,.t,.a 1,.f,.v .ob (O.list (AC sV Bs)),.v .nat (k),.v .val (sV b0),.t,.a 2,.v .ob (O.list (AC sV es)),.t,.f,.t,.f,.a 1,.t,.v .ob (O.list (AC sV Bs)),.v .nat (k+1),.v .val (sV b),.t,.a 1] ?_ (an hE (an k0 (an k1 (an (B8 (u:=kv) (v:=V.int (↑k:Int)) (h:=o1) (h2:=(by rfl))) (an (B8 (u:=sd) (v:=sV [10]) (h:=o2) (h2:=(by rfl))) (an q2 (an hB (an i3 (an i4 (an (congrArg not q3) (an hE (an okE (an x1 (an (B8 (u:=emp) (v:=V.bool (decide ((↑(k+1):Int)<(↑(A9 (AC sV es)):Int)))) (h:=o3) (h2:=(by rfl))) (an x1 (an z0 (an hB (an i1 (an i2 (an z1 trivial)))))))))))))))))))) (by kernel_rfl)
   rw[e3]
   exact n
end
section
variable {ns:List Int}{a0:O}{ri ei bi k:Nat}{row emp kv sd:V}{hs:List O}
theorem Sz {v b:List Nat}{es Bs:List (List Nat)}(hl:es[k]? =some [10])(hp:k=0∨∃b0,Bs[k]? =some b0∧b0≠[])(hx:es[k+1]? =some [])(hE:hs[ei]? =some (.list (es.map sV)))(hB:hs[bi]? =some (.list (Bs.map sV)))(hz:es.length≤lim)(hBz:Bs.length≤lim)(hb:Bs[k+1]? =some b)(hv:v.length+1+b.length≤lim)(o1:Az kv=true)(o2:Az sd=true)(o3:Az emp=true):
  ∃em w,Az em=true∧Az w=true∧∀s2,BK (S ns) 15 (wT D5) (.list (ei+1) true) (k+1) (wB D5) ⟨C7 ri ei bi (.int (k:Int)) row (sV (v++([32]++b))) w em,a0::hs⟩ .next s2→
   BK (S ns) 15 (wT D5) (.list (ei+1) true) k (wB D5) ⟨C7 ri ei bi kv row (sV v) sd emp,a0::hs⟩ .next s2:=by
 have lt:=(AI.mp hl).1
 have lb:=(AI.mp hb).1
 have k0:D4 k (es.map sV).length=true:=Eh (by rw[AH];exact BU lt)
 have k1:some (((es.map sV)[k]?).map (Fw true k))=some (some (.tup [.int (k:Int),sV [10]])):=by rw[Aj,hl];rfl
 have q1:=(M8 [10]).trans (decide_eq_true rfl)
 have i1:DV ((k+1:Nat):Int) (Bs.map sV).length=some (k+1):=E4 (by rw[AH];exact hBz) (by rw[AH];exact lb)
 have i2:(Bs.map sV)[k+1]? =some (sV b):=by rw[Aj,hb];rfl
 have okE:BF (es.map sV).length=true:=At (by rw[AH];exact hz)
 have x1:decide (((k+1:Nat):Int)<((es.map sV).length:Int))=true:=decide_eq_true (by have:=(AI.mp hx).1;rw[AH];lia)
 have x2:DV ((k+1:Nat):Int) (es.map sV).length=some (k+1):=E4 (by rw[AH];exact hz) (by rw[AH];exact(AI.mp hx).1)
 have x3:(es.map sV)[k+1]? =some (sV []):=by rw[Aj,hx];rfl
 have x4:=(GE []).trans (decide_eq_true rfl)
 have z0:BF (v.length+(A8 " ").cps.size)=true:=At (AM (BM _ b.length) hv)
 have z1:BF (((⟨v.toArray⟩:Str)++A8 " ").cps.size+b.length)=true:=by rw[M4,EJ];exact At (by show(v++[32]).toArray.size+_≤_;rw[Au,AF];exact hv)
 have e3:V.str ((⟨v.toArray⟩:Str)++A8 " "++(⟨b.toArray⟩:Str))=sV (v++([32]++b)):=by rw[M4,EJ,EJ,AB]
 refine⟨.bool (!decide ((⟨#[]⟩:Str)=A8 "")),.str (A8 " "),rfl,rfl,fun s2 n=>?_⟩
 rcases hp with hp|⟨b0,hb0,hp⟩
 ·subst hp
  refine BK.go (s1:=St.mk [(A8 "rows",V.obj (ri+1)),(A8 "ends",V.obj (ei+1)),(A8 "bare",V.obj (bi+1)),(A8 "k",V.int (↑0:Int)),(A8 "row",row),(A8 "value",V.str (Str.mk (AE v)++A8 " "++Str.mk (AE b))),(A8 "said",V.str (A8 " ")),(A8 "empty",V.bool !decide (Str.mk #[]=A8 "")),(A8 "enumerate",V.ty "enumerate"),(A8 "len",V.bi "len")] (a0::hs)) [.v .ob (O.list (AC sV es)),.a 1,.v .oval (some (V.tup [V.int (↑0:Int),sV [10]])),.t,.t,.a 4,.v .ob (O.list (AC sV es)),.t,.t,.v .ob (O.list (AC sV es)),.v .nat (0+1),.v .val (sV []),.a 1,.t,.a 2,.t,.v .ob (O.list (AC sV Bs)),.v .nat (0+1),.v .val (sV b),.t,.a 1] ?_ (an hE (an k1 (an (B8 (u:=kv) (v:=V.int (↑0:Int)) (h:=o1) (h2:=(by rfl))) (an (B8 (u:=sd) (v:=sV [10]) (h:=o2) (h2:=(by rfl))) (an hE (an okE (an x1 (an hE (an x2 (an x3 (an (B8 (u:=emp) (v:=V.bool !decide (Str.mk #[]=A8 "")) (h:=o3) (h2:=(by rfl))) (an z0 (an hB (an i1 (an i2 (an z1 trivial)))))))))))))))) (by kernel_rfl)
  rw[e3]
  exact n
 ·have i3:DV (k:Int) (Bs.map sV).length=some k:=E4 (by rw[AH];exact hBz) (by rw[AH];lia)
  have i4:(Bs.map sV)[k]? =some (sV b0):=by rw[Aj,hb0];rfl
  have q3:=(GE b0).trans (decide_eq_false hp)
  by_cases hk:k=0
  ·subst hk
   refine BK.go (s1:=St.mk [(A8 "rows",V.obj (ri+1)),(A8 "ends",V.obj (ei+1)),(A8 "bare",V.obj (bi+1)),(A8 "k",V.int (↑0:Int)),(A8 "row",row),(A8 "value",V.str (Str.mk (AE v)++A8 " "++Str.mk (AE b))),(A8 "said",V.str (A8 " ")),(A8 "empty",V.bool !decide (Str.mk #[]=A8 "")),(A8 "enumerate",V.ty "enumerate"),(A8 "len",V.bi "len")] (a0::hs)) [.v .ob (O.list (AC sV es)),.a 1,.v .oval (some (V.tup [V.int (↑0:Int),sV [10]])),.t,.t,.a 4,.v .ob (O.list (AC sV es)),.t,.t,.v .ob (O.list (AC sV es)),.v .nat (0+1),.v .val (sV []),.a 1,.t,.a 2,.t,.v .ob (O.list (AC sV Bs)),.v .nat (0+1),.v .val (sV b),.t,.a 1] ?_ (an hE (an k1 (an (B8 (u:=kv) (v:=V.int (↑0:Int)) (h:=o1) (h2:=(by rfl))) (an (B8 (u:=sd) (v:=sV [10]) (h:=o2) (h2:=(by rfl))) (an hE (an okE (an x1 (an hE (an x2 (an x3 (an (B8 (u:=emp) (v:=V.bool !decide (Str.mk #[]=A8 "")) (h:=o3) (h2:=(by rfl))) (an z0 (an hB (an i1 (an i2 (an z1 trivial)))))))))))))))) (by kernel_rfl)
   rw[e3]
   exact n
  ·have q2:decide ((k:Int)=0)=false:=decide_eq_false (by lia)
   refine BK.go (s1:=St.mk [(A8 "rows",V.obj (ri+1)),(A8 "ends",V.obj (ei+1)),(A8 "bare",V.obj (bi+1)),(A8 "k",V.int (↑k:Int)),(A8 "row",row),(A8 "value",V.str (Str.mk (AE v)++A8 " "++Str.mk (AE b))),(A8 "said",V.str (A8 " ")),(A8 "empty",V.bool !decide (Str.mk #[]=A8 "")),(A8 "enumerate",V.ty "enumerate"),(A8 "len",V.bi "len")] (a0::hs)) [.v .ob (O.list (AC sV es)),.t,.v .oval (some (V.tup [V.int (↑k:Int),sV [10]])),.t,.t,.a 1,.f,.v .ob (O.list (AC sV Bs)),.v .nat (k),.v .val (sV b0),.t,.a 2,.v .ob (O.list (AC sV es)),.t,.t,.v .ob (O.list (AC sV es)),.v .nat (k+1),.v .val (sV []),.a 1,.t,.a 2,.t,.v .ob (O.list (AC sV Bs)),.v .nat (k+1),.v .val (sV b),.t,.a 1] ?_ (an hE (an k0 (an k1 (an (B8 (u:=kv) (v:=V.int (↑k:Int)) (h:=o1) (h2:=(by rfl))) (an (B8 (u:=sd) (v:=sV [10]) (h:=o2) (h2:=(by rfl))) (an q2 (an hB (an i3 (an i4 (an (congrArg not q3) (an hE (an okE (an x1 (an hE (an x2 (an x3 (an (B8 (u:=emp) (v:=V.bool !decide (Str.mk #[]=A8 "")) (h:=o3) (h2:=(by rfl))) (an z0 (an hB (an i1 (an i2 (an z1 trivial)))))))))))))))))))))) (by kernel_rfl)
   rw[e3]
   exact n
theorem Sy {v b:List Nat}{es Bs:List (List Nat)}(hl:es[k]? =some [10])(hp:k=0∨∃b0,Bs[k]? =some b0∧b0≠[]){l2:List Nat}(hx:es[k+1]? =some l2)(hx2:l2≠[])(hx3:b≠[])(hE:hs[ei]? =some (.list (es.map sV)))(hB:hs[bi]? =some (.list (Bs.map sV)))(hz:es.length≤lim)(hBz:Bs.length≤lim)(hb:Bs[k+1]? =some b)(hv:v.length+1+b.length≤lim)(o1:Az kv=true)(o2:Az sd=true)(o3:Az emp=true):
  ∃em w,Az em=true∧Az w=true∧∀s2,BK (S ns) 15 (wT D5) (.list (ei+1) true) (k+1) (wB D5) ⟨C7 ri ei bi (.int (k:Int)) row (sV (v++([32]++b))) w em,a0::hs⟩ .next s2→
   BK (S ns) 15 (wT D5) (.list (ei+1) true) k (wB D5) ⟨C7 ri ei bi kv row (sV v) sd emp,a0::hs⟩ .next s2:=by
 have lt:=(AI.mp hl).1
 have lb:=(AI.mp hb).1
 have k0:D4 k (es.map sV).length=true:=Eh (by rw[AH];exact BU lt)
 have k1:some (((es.map sV)[k]?).map (Fw true k))=some (some (.tup [.int (k:Int),sV [10]])):=by rw[Aj,hl];rfl
 have q1:=(M8 [10]).trans (decide_eq_true rfl)
 have i1:DV ((k+1:Nat):Int) (Bs.map sV).length=some (k+1):=E4 (by rw[AH];exact hBz) (by rw[AH];exact lb)
 have i2:(Bs.map sV)[k+1]? =some (sV b):=by rw[Aj,hb];rfl
 have okE:BF (es.map sV).length=true:=At (by rw[AH];exact hz)
 have x1:decide (((k+1:Nat):Int)<((es.map sV).length:Int))=true:=decide_eq_true (by have:=(AI.mp hx).1;rw[AH];lia)
 have x2:DV ((k+1:Nat):Int) (es.map sV).length=some (k+1):=E4 (by rw[AH];exact hz) (by rw[AH];exact(AI.mp hx).1)
 have x3:(es.map sV)[k+1]? =some (sV l2):=by rw[Aj,hx];rfl
 have x4:=(GE l2).trans (decide_eq_false hx2)
 have x5:=(GE b).trans (decide_eq_false hx3)
 have z0:BF (v.length+(A8 " ").cps.size)=true:=At (AM (BM _ b.length) hv)
 have z1:BF (((⟨v.toArray⟩:Str)++A8 " ").cps.size+b.length)=true:=by rw[M4,EJ];exact At (by show(v++[32]).toArray.size+_≤_;rw[Au,AF];exact hv)
 have e3:V.str ((⟨v.toArray⟩:Str)++A8 " "++(⟨b.toArray⟩:Str))=sV (v++([32]++b)):=by rw[M4,EJ,EJ,AB]
 refine⟨.bool (decide ((⟨b.toArray⟩:Str)=A8 "")),.str (A8 " "),rfl,rfl,fun s2 n=>?_⟩
 rcases hp with hp|⟨b0,hb0,hp⟩
 ·subst hp
  refine BK.go (s1:=St.mk [(A8 "rows",V.obj (ri+1)),(A8 "ends",V.obj (ei+1)),(A8 "bare",V.obj (bi+1)),(A8 "k",V.int (↑0:Int)),(A8 "row",row),(A8 "value",V.str (Str.mk (AE v)++A8 " "++Str.mk (AE b))),(A8 "said",V.str (A8 " ")),(A8 "empty",V.bool (decide (Str.mk (AE b)=A8 ""))),(A8 "enumerate",V.ty "enumerate"),(A8 "len",V.bi "len")] (a0::hs)) [.v .ob (O.list (AC sV es)),.a 1,.v .oval (some (V.tup [V.int (↑0:Int),sV [10]])),.t,.t,.a 4,.v .ob (O.list (AC sV es)),.t,.t,.v .ob (O.list (AC sV es)),.v .nat (0+1),.v .val (sV l2),.t,.v .ob (O.list (AC sV Bs)),.v .nat (0+1),.v .val (sV b),.t,.f,.a 1,.t,.v .ob (O.list (AC sV Bs)),.v .nat (0+1),.v .val (sV b),.t,.a 1] ?_ (an hE (an k1 (an (B8 (u:=kv) (v:=V.int (↑0:Int)) (h:=o1) (h2:=(by rfl))) (an (B8 (u:=sd) (v:=sV [10]) (h:=o2) (h2:=(by rfl))) (an hE (an okE (an x1 (an hE (an x2 (an x3 (an (congrArg not x4) (an hB (an i1 (an i2 (an (B8 (u:=emp) (v:=V.bool (decide (Str.mk (AE b)=A8 ""))) (h:=o3) (h2:=(by rfl))) (an x5 (an z0 (an hB (an i1 (an i2 (an z1 trivial))))))))))))))))))))) (by kernel_rfl)
  rw[e3]
  exact n
 ·have i3:DV (k:Int) (Bs.map sV).length=some k:=E4 (by rw[AH];exact hBz) (by rw[AH];lia)
  have i4:(Bs.map sV)[k]? =some (sV b0):=by rw[Aj,hb0];rfl
  have q3:=(GE b0).trans (decide_eq_false hp)
  by_cases hk:k=0
  ·subst hk
   refine BK.go (s1:=St.mk [(A8 "rows",V.obj (ri+1)),(A8 "ends",V.obj (ei+1)),(A8 "bare",V.obj (bi+1)),(A8 "k",V.int (↑0:Int)),(A8 "row",row),(A8 "value",V.str (Str.mk (AE v)++A8 " "++Str.mk (AE b))),(A8 "said",V.str (A8 " ")),(A8 "empty",V.bool (decide (Str.mk (AE b)=A8 ""))),(A8 "enumerate",V.ty "enumerate"),(A8 "len",V.bi "len")] (a0::hs)) [.v .ob (O.list (AC sV es)),.a 1,.v .oval (some (V.tup [V.int (↑0:Int),sV [10]])),.t,.t,.a 4,.v .ob (O.list (AC sV es)),.t,.t,.v .ob (O.list (AC sV es)),.v .nat (0+1),.v .val (sV l2),.t,.v .ob (O.list (AC sV Bs)),.v .nat (0+1),.v .val (sV b),.t,.f,.a 1,.t,.v .ob (O.list (AC sV Bs)),.v .nat (0+1),.v .val (sV b),.t,.a 1] ?_ (an hE (an k1 (an (B8 (u:=kv) (v:=V.int (↑0:Int)) (h:=o1) (h2:=(by rfl))) (an (B8 (u:=sd) (v:=sV [10]) (h:=o2) (h2:=(by rfl))) (an hE (an okE (an x1 (an hE (an x2 (an x3 (an (congrArg not x4) (an hB (an i1 (an i2 (an (B8 (u:=emp) (v:=V.bool (decide (Str.mk (AE b)=A8 ""))) (h:=o3) (h2:=(by rfl))) (an x5 (an z0 (an hB (an i1 (an i2 (an z1 trivial))))))))))))))))))))) (by kernel_rfl)
   rw[e3]
   exact n
  ·have q2:decide ((k:Int)=0)=false:=decide_eq_false (by lia)
   refine BK.go (s1:=St.mk [(A8 "rows",V.obj (ri+1)),(A8 "ends",V.obj (ei+1)),(A8 "bare",V.obj (bi+1)),(A8 "k",V.int (↑k:Int)),(A8 "row",row),(A8 "value",V.str (Str.mk (AE v)++A8 " "++Str.mk (AE b))),(A8 "said",V.str (A8 " ")),(A8 "empty",V.bool (decide (Str.mk (AE b)=A8 ""))),(A8 "enumerate",V.ty "enumerate"),(A8 "len",V.bi "len")] (a0::hs)) [.v .ob (O.list (AC sV es)),.t,.v .oval (some (V.tup [V.int (↑k:Int),sV [10]])),.t,.t,.a 1,.f,.v .ob (O.list (AC sV Bs)),.v .nat (k),.v .val (sV b0),.t,.a 2,.v .ob (O.list (AC sV es)),.t,.t,.v .ob (O.list (AC sV es)),.v .nat (k+1),.v .val (sV l2),.t,.v .ob (O.list (AC sV Bs)),.v .nat (k+1),.v .val (sV b),.t,.f,.a 1,.t,.v .ob (O.list (AC sV Bs)),.v .nat (k+1),.v .val (sV b),.t,.a 1] ?_ (an hE (an k0 (an k1 (an (B8 (u:=kv) (v:=V.int (↑k:Int)) (h:=o1) (h2:=(by rfl))) (an (B8 (u:=sd) (v:=sV [10]) (h:=o2) (h2:=(by rfl))) (an q2 (an hB (an i3 (an i4 (an (congrArg not q3) (an hE (an okE (an x1 (an hE (an x2 (an x3 (an (congrArg not x4) (an hB (an i1 (an i2 (an (B8 (u:=emp) (v:=V.bool (decide (Str.mk (AE b)=A8 ""))) (h:=o3) (h2:=(by rfl))) (an x5 (an z0 (an hB (an i1 (an i2 (an z1 trivial))))))))))))))))))))))))))) (by kernel_rfl)
   rw[e3]
   exact n
end
theorem YA:A8 ""=(⟨[].toArray⟩:Str):=by decide+kernel
section
variable {ns:List Int}{a0:O}{ri ei bi k:Nat}{row emp kv sd:V}{hs:List O}
theorem Sx {v b:List Nat}{es Bs:List (List Nat)}(hl:es[k]? =some [10])(hp:k=0∨∃b0,Bs[k]? =some b0∧b0≠[]){l2:List Nat}(hx:es[k+1]? =some l2)(hx2:l2≠[])(hx3:b=[])(hE:hs[ei]? =some (.list (es.map sV)))(hB:hs[bi]? =some (.list (Bs.map sV)))(hz:es.length≤lim)(hBz:Bs.length≤lim)(hb:Bs[k+1]? =some b)(hv:v.length+1+b.length≤lim)(o1:Az kv=true)(o2:Az sd=true)(o3:Az emp=true):
  ∃em w,Az em=true∧Az w=true∧∀s2,BK (S ns) 15 (wT D5) (.list (ei+1) true) (k+1) (wB D5) ⟨C7 ri ei bi (.int (k:Int)) row (sV (v++([]++b))) w em,a0::hs⟩ .next s2→
   BK (S ns) 15 (wT D5) (.list (ei+1) true) k (wB D5) ⟨C7 ri ei bi kv row (sV v) sd emp,a0::hs⟩ .next s2:=by
 have lt:=(AI.mp hl).1
 have lb:=(AI.mp hb).1
 have k0:D4 k (es.map sV).length=true:=Eh (by rw[AH];exact BU lt)
 have k1:some (((es.map sV)[k]?).map (Fw true k))=some (some (.tup [.int (k:Int),sV [10]])):=by rw[Aj,hl];rfl
 have q1:=(M8 [10]).trans (decide_eq_true rfl)
 have i1:DV ((k+1:Nat):Int) (Bs.map sV).length=some (k+1):=E4 (by rw[AH];exact hBz) (by rw[AH];exact lb)
 have i2:(Bs.map sV)[k+1]? =some (sV b):=by rw[Aj,hb];rfl
 have okE:BF (es.map sV).length=true:=At (by rw[AH];exact hz)
 have x1:decide (((k+1:Nat):Int)<((es.map sV).length:Int))=true:=decide_eq_true (by have:=(AI.mp hx).1;rw[AH];lia)
 have x2:DV ((k+1:Nat):Int) (es.map sV).length=some (k+1):=E4 (by rw[AH];exact hz) (by rw[AH];exact(AI.mp hx).1)
 have x3:(es.map sV)[k+1]? =some (sV l2):=by rw[Aj,hx];rfl
 have x4:=(GE l2).trans (decide_eq_false hx2)
 have x5:=(GE b).trans (decide_eq_true hx3)
 have z0:BF (v.length+(A8 "").cps.size)=true:=At (show v.length+0≤lim by lia)
 have z1:BF (((⟨v.toArray⟩:Str)++A8 "").cps.size+b.length)=true:=by
  rw[YA,EJ,AK]
  exact At (show v.length+b.length≤lim by lia)
 have e3:V.str ((⟨v.toArray⟩:Str)++A8 ""++(⟨b.toArray⟩:Str))=sV (v++([]++b)):=by rw[YA,EJ,EJ,AB]
 refine⟨.bool (decide ((⟨b.toArray⟩:Str)=A8 "")),.str (A8 ""),rfl,rfl,fun s2 n=>?_⟩
 rcases hp with hp|⟨b0,hb0,hp⟩
 ·subst hp
  refine BK.go (s1:=St.mk [(A8 "rows",V.obj (ri+1)),(A8 "ends",V.obj (ei+1)),(A8 "bare",V.obj (bi+1)),(A8 "k",V.int (↑0:Int)),(A8 "row",row),(A8 "value",V.str (Str.mk (AE v)++A8 ""++Str.mk (AE b))),(A8 "said",V.str (A8 "")),(A8 "empty",V.bool (decide (Str.mk (AE b)=A8 ""))),(A8 "enumerate",V.ty "enumerate"),(A8 "len",V.bi "len")] (a0::hs)) [.v .ob (O.list (AC sV es)),.a 1,.v .oval (some (V.tup [V.int (↑0:Int),sV [10]])),.t,.t,.a 4,.v .ob (O.list (AC sV es)),.t,.t,.v .ob (O.list (AC sV es)),.v .nat (0+1),.v .val (sV l2),.t,.v .ob (O.list (AC sV Bs)),.v .nat (0+1),.v .val (sV b),.t,.t,.a 1,.t,.v .ob (O.list (AC sV Bs)),.v .nat (0+1),.v .val (sV b),.t,.a 1] ?_ (an hE (an k1 (an (B8 (u:=kv) (v:=V.int (↑0:Int)) (h:=o1) (h2:=(by rfl))) (an (B8 (u:=sd) (v:=sV [10]) (h:=o2) (h2:=(by rfl))) (an hE (an okE (an x1 (an hE (an x2 (an x3 (an (congrArg not x4) (an hB (an i1 (an i2 (an (B8 (u:=emp) (v:=V.bool (decide (Str.mk (AE b)=A8 ""))) (h:=o3) (h2:=(by rfl))) (an x5 (an z0 (an hB (an i1 (an i2 (an z1 trivial))))))))))))))))))))) (by kernel_rfl)
  rw[e3]
  exact n
 ·have i3:DV (k:Int) (Bs.map sV).length=some k:=E4 (by rw[AH];exact hBz) (by rw[AH];lia)
  have i4:(Bs.map sV)[k]? =some (sV b0):=by rw[Aj,hb0];rfl
  have q3:=(GE b0).trans (decide_eq_false hp)
  by_cases hk:k=0
  ·subst hk
   refine BK.go (s1:=St.mk [(A8 "rows",V.obj (ri+1)),(A8 "ends",V.obj (ei+1)),(A8 "bare",V.obj (bi+1)),(A8 "k",V.int (↑0:Int)),(A8 "row",row),(A8 "value",V.str (Str.mk (AE v)++A8 ""++Str.mk (AE b))),(A8 "said",V.str (A8 "")),(A8 "empty",V.bool (decide (Str.mk (AE b)=A8 ""))),(A8 "enumerate",V.ty "enumerate"),(A8 "len",V.bi "len")] (a0::hs)) [.v .ob (O.list (AC sV es)),.a 1,.v .oval (some (V.tup [V.int (↑0:Int),sV [10]])),.t,.t,.a 4,.v .ob (O.list (AC sV es)),.t,.t,.v .ob (O.list (AC sV es)),.v .nat (0+1),.v .val (sV l2),.t,.v .ob (O.list (AC sV Bs)),.v .nat (0+1),.v .val (sV b),.t,.t,.a 1,.t,.v .ob (O.list (AC sV Bs)),.v .nat (0+1),.v .val (sV b),.t,.a 1] ?_ (an hE (an k1 (an (B8 (u:=kv) (v:=V.int (↑0:Int)) (h:=o1) (h2:=(by rfl))) (an (B8 (u:=sd) (v:=sV [10]) (h:=o2) (h2:=(by rfl))) (an hE (an okE (an x1 (an hE (an x2 (an x3 (an (congrArg not x4) (an hB (an i1 (an i2 (an (B8 (u:=emp) (v:=V.bool (decide (Str.mk (AE b)=A8 ""))) (h:=o3) (h2:=(by rfl))) (an x5 (an z0 (an hB (an i1 (an i2 (an z1 trivial))))))))))))))))))))) (by kernel_rfl)
   rw[e3]
   exact n
  ·have q2:decide ((k:Int)=0)=false:=decide_eq_false (by lia)
   refine BK.go (s1:=St.mk [(A8 "rows",V.obj (ri+1)),(A8 "ends",V.obj (ei+1)),(A8 "bare",V.obj (bi+1)),(A8 "k",V.int (↑k:Int)),(A8 "row",row),(A8 "value",V.str (Str.mk (AE v)++A8 ""++Str.mk (AE b))),(A8 "said",V.str (A8 "")),(A8 "empty",V.bool (decide (Str.mk (AE b)=A8 ""))),(A8 "enumerate",V.ty "enumerate"),(A8 "len",V.bi "len")] (a0::hs)) [.v .ob (O.list (AC sV es)),.t,.v .oval (some (V.tup [V.int (↑k:Int),sV [10]])),.t,.t,.a 1,.f,.v .ob (O.list (AC sV Bs)),.v .nat (k),.v .val (sV b0),.t,.a 2,.v .ob (O.list (AC sV es)),.t,.t,.v .ob (O.list (AC sV es)),.v .nat (k+1),.v .val (sV l2),.t,.v .ob (O.list (AC sV Bs)),.v .nat (k+1),.v .val (sV b),.t,.t,.a 1,.t,.v .ob (O.list (AC sV Bs)),.v .nat (k+1),.v .val (sV b),.t,.a 1] ?_ (an hE (an k0 (an k1 (an (B8 (u:=kv) (v:=V.int (↑k:Int)) (h:=o1) (h2:=(by rfl))) (an (B8 (u:=sd) (v:=sV [10]) (h:=o2) (h2:=(by rfl))) (an q2 (an hB (an i3 (an i4 (an (congrArg not q3) (an hE (an okE (an x1 (an hE (an x2 (an x3 (an (congrArg not x4) (an hB (an i1 (an i2 (an (B8 (u:=emp) (v:=V.bool (decide (Str.mk (AE b)=A8 ""))) (h:=o3) (h2:=(by rfl))) (an x5 (an z0 (an hB (an i1 (an i2 (an z1 trivial))))))))))))))))))))))))))) (by kernel_rfl)
   rw[e3]
   exact n
end
section
variable {ns:List Int}{a0:O}{ri ei bi k:Nat}{row emp kv sd:V}{hs:List O}
theorem Z1 {v b b0 l:List Nat}{r:Ax}{L0 L2:List (List Nat×Ax)}{Bs:List (List Nat)}(eL:L0.drop k=(l,r)::L2)(hE:hs[ei]? =some (.list ((L0.map (·.1)).map sV)))(hB:hs[bi]? =some (.list (Bs.map sV)))(hz:L0.length≤lim)(hBz:Bs.length≤lim)(hb0:Bs[k]? =some b0)(hb:Bs[k+1]? =some b)(hv:v.length+1+l.length+b.length≤lim)(o1:Az kv=true)(o2:Az sd=true)(o3:Az emp=true){p:Bool}(hp:p=true↔k=0∨b0≠[]):
  ∃em w,Az em=true∧Az w=true∧∀s2,BK (S ns) 15 (wT D5) (.list (ei+1) true) (k+1) (wB D5) ⟨C7 ri ei bi (.int (k:Int)) row (sV (v++(DL p l L2 b++b))) w em,a0::hs⟩ .next s2→
   BK (S ns) 15 (wT D5) (.list (ei+1) true) k (wB D5) ⟨C7 ri ei bi kv row (sV v) sd emp,a0::hs⟩ .next s2:=by
 have hz2:(L0.map (·.1)).length≤lim:=by rw[AH];exact hz
 have hq:L0[k]? =some (l,r):=by rw[←EF k,←Cj,eL];rfl
 have hl:(L0.map (·.1))[k]? =some l:=by rw[Aj,hq];rfl
 have eL2:L0.drop (k+1)=L2:=by rw[←Be,eL];rfl
 by_cases h1:l=[10]
 ·subst h1
  have hv:v.length+1+b.length≤lim:=by simp at hv;lia
  by_cases h2:p=true
  ·have hp2:k=0∨∃b0,Bs[k]? =some b0∧b0≠[]:=(hp.mp h2).imp id fun h=>⟨b0,hb0,h⟩
   have e0:DL p [10] L2 b=if GJ L2=true∧b=[] then[] else[32]:=by unfold DL;rw[if_pos ⟨rfl,h2⟩]
   rw[e0]
   rcases L2 with _|⟨q,L3⟩
   ·
    rw[if_neg (fun h=>nomatch h.1)]
    exact T1 hl hp2 (by rw[AH];exact List.drop_eq_nil_iff.mp eL2) hE hB hz2 hBz hb hv o1 o2 o3
   ·
    have hx:(L0.map (·.1))[k+1]? =some q.1:=by rw[Aj,←EF (k+1),←Cj,eL2];rfl
    by_cases h3:q.1=[]
    ·rw[if_neg (fun h=>by have:=h.1;have this:(!q.1.isEmpty)=true:=this;rw[h3] at this;cases this)]
     exact Sz hl hp2 (h3▸hx) hE hB hz2 hBz hb hv o1 o2 o3
    ·by_cases h4:b=[]
     ·rw[if_pos ⟨by show(!q.1.isEmpty)=true;rw[List.isEmpty_eq_false_iff.mpr h3];rfl,h4⟩]
      exact Sx hl hp2 hx h3 h4 hE hB hz2 hBz hb hv o1 o2 o3
     ·rw[if_neg (fun h=>h4 h.2)]
      exact Sy hl hp2 hx h3 h4 hE hB hz2 hBz hb hv o1 o2 o3
  ·have e0:DL p [10] L2 b=[10]:=by unfold DL;rw[if_neg fun h=>h2 h.2]
   rw[e0]
   have hk:k≠0:=fun e=>h2 (hp.mpr (.inl e))
   have hb1:b0=[]:=Classical.byContradiction fun e=>h2 (hp.mpr (.inr e))
   exact⟨emp,sV [10],o3,rfl,fun s2 n=>Qw hl hk (hb1▸hb0) hE hB hz2 hBz hb hv o1 o2 n⟩
 ·have e0:DL p l L2 b=l:=by unfold DL;rw[if_neg fun h=>h1 h.1]
  rw[e0]
  exact⟨emp,sV l,o3,rfl,fun s2 n=>Qv hl h1 hE hB hz2 hBz hb (by lia) o1 o2 n⟩
end
theorem Lb (k:Nat)(r:Ax):∀L:List (List Nat×Ax),∃t,Dj k r L=DT L (if k=0 then r else DX r)::t
 |[]=>⟨_,rfl⟩
 |(l,r2)::L=>⟨_,rfl⟩
theorem Qc {k:Nat}(r:Ax)(L:List (List Nat×Ax)):∃t,Dj (k+1) r L=Ce L r::t:=by
 refine Do (Lb (k+1) r L) fun t e=>?_
 exact⟨t,e⟩
section
variable {ns:List Int}{a0:O}{ri ei bi:Nat}{row:V}{hs:List O}
theorem UB {es:List (List Nat)}{k:Nat}{v kv sd emp:V}(hE:hs[ei]? =some (.list (es.map sV)))(hk:k=es.length):BK (S ns) 15 (wT D5) (.list (ei+1) true) k (wB D5) ⟨C7 ri ei bi kv row v sd emp,a0::hs⟩ .next ⟨C7 ri ei bi kv row v sd emp,a0::hs⟩:=by
 have k0:D4 k (es.map sV).length=true:=Eh (by rw[AH];exact Bp hk)
 have k1:some (((es.map sV)[k]?).map (Fw true k))=some none:=by rw[Cc (by rw[AH];exact Bp hk.symm)];rfl
 exact BK.by [.v .ob (O.list (AC sV es)),.t,.v .oval (none)] (an hE (an k0 (an k1 trivial))) (by kernel_rfl)
end
noncomputable def Ng (k:Nat)(r:Ax)(L:List (List Nat×Ax)):Nat:=((Dj k r L).tail.map A9).sum+(L.map fun q=>1+q.1.length).sum
section
variable {ns:List Int}{a0:O}{ri ei bi:Nat}{row:V}{hs:List O}
theorem Tf (p:Bool)(l:List Nat)(L:List (List Nat×Ax))(b:List Nat):(DL p l L b).length≤1+l.length:=by
 unfold DL
 split
 ·split
  ·exact BX _
  ·exact BM 1 _
 ·exact BW _ _
theorem UC {L0:List (List Nat×Ax)}{Bs:List (List Nat)}(hz:L0.length≤lim)(hBz:Bs.length≤lim)(hE:hs[ei]? =some (.list ((L0.map (·.1)).map sV)))(hB:hs[bi]? =some (.list (Bs.map sV))):∀{L2:List (List Nat×Ax)} {k:Nat} {v b0:List Nat} {r:Ax} {kv sd emp:V} {p:Bool},
  L0.drop k=L2→k≤L0.length→Bs.drop k=Dj k r L2→Bs[k]? =some b0→(p=true↔k=0∨b0≠[])→v.length+Ng k r L2≤lim→Az kv=true→Az sd=true→Az emp=true→
  ∃kv' sd' emp',BK (S ns) 15 (wT D5) (.list (ei+1) true) k (wB D5) ⟨C7 ri ei bi kv row (sV v) sd emp,a0::hs⟩ .next ⟨C7 ri ei bi kv' row (sV (v++FM p L2)) sd' emp',a0::hs⟩:=by
 intro L2
 induction L2 with
 |nil=>
  intro k v b0 r kv sd emp p eL hk eB hb0 hp hv o1 o2 o3
  have e:=congrArg A9 eL
  rw[Ci,BR] at e
  refine⟨kv,sd,emp,?_⟩
  rw[show v++FM p []=v from AK v]
  exact UB hE (by rw[AH];exact FT hk (Nat.sub_eq_zero_iff_le.mp e))
 |cons q L2 ih=>
  intro k v b0 r kv sd emp p eL hk eB hb0 hp hv o1 o2 o3
  obtain⟨l,r2⟩:=q
  refine Do (Qc (k:=k) r2 L2) fun t et=>?_
  have eL2:L0.drop (k+1)=L2:=by rw[←Be,eL];rfl
  have eB0:Dj k r ((l,r2)::L2)=DT ((l,r2)::L2) (if k=0 then r else DX r)::Dj (k+1) r2 L2:=rfl
  have eB2:Bs.drop (k+1)=Dj (k+1) r2 L2:=by rw[←Be,eB,eB0];rfl
  have hb:Bs[k+1]? =some (Ce L2 r2):=by rw[←EF (k+1),←Cj,eB2,et];rfl
  have ew:Ng k r ((l,r2)::L2)=(Ce L2 r2).length+(t.map A9).sum+((1+l.length)+(L2.map fun q=>1+q.1.length).sum):=by
   unfold Ng;rw[eB0,et];rfl
  have ew2:Ng (k+1) r2 L2=(t.map A9).sum+(L2.map fun q=>1+q.1.length).sum:=by
   unfold Ng;rw[et];rfl
  have hsd:=Tf p l L2 (Ce L2 r2)
  have hlen:(k+1)≤L0.length:=by
   have e:=congrArg A9 eL
   rw[Ci,AQ] at e;exact Nat.lt_of_sub_eq_succ e
  refine BJ (Z1 (ns:=ns) (a0:=a0) (ri:=ri) (row:=row) (v:=v) eL hE hB hz hBz hb0 hb (by lia) o1 o2 o3 hp) fun em w ok1 ok2 f=>?_
  have hp2:(!(Ce L2 r2).isEmpty)=true↔k+1=0∨Ce L2 r2≠[]:=by
   rcases Ce L2 r2 with _|⟨a,b⟩
   ·exact⟨(fun z=>nomatch z),fun z=>z.elim (fun e=>nomatch e) (fun e=>absurd rfl e)⟩
   ·exact⟨fun zz=>.inr (fun e=>nomatch e),fun zz=>rfl⟩
  refine ST (ih (v:=v++(DL p l L2 (Ce L2 r2)++Ce L2 r2)) (kv:=.int (k:Int)) (sd:=w) (emp:=em) eL2 hlen eB2 hb hp2 (by rw[AF,AF];lia) rfl ok2 ok1) fun kv' sd' emp' g=>?_
  refine⟨kv',sd',emp',f _ ?_⟩
  rw[show v++FM p ((l,r2)::L2)=v++(DL p l L2 (Ce L2 r2)++Ce L2 r2)++FM (!(Ce L2 r2).isEmpty) L2 from by rw[Qs];simp only[AB]]
  exact g
end
noncomputable def Hm (L:List (List Nat×Ax)):Nat:=(L.map fun q=>1+q.1.length+q.2.length).sum
noncomputable def Gm (p:Ax×List (List Nat×Ax)):Nat:=p.1.length+Hm p.2
theorem ZF {h cl:Bool}{u x r:List Nat}{its:List ET}(q:Pz h u its x cl r):Gm (AT its)≤2 * x.length:=by
 have bl:∀{b l u:List Nat},DQ b l u→l.length=1∧1≤b.length:=fun h=>by rcases h with _|_<;>exact⟨rfl,Nat.succ_pos _⟩
 induction q with
 |@brk h cl b l u x r its hb _ ih=>
  have e:Gm (AT (.br l::its))=1+l.length+Gm (AT its):=by
   show 0+(1+l.length+(AT its).1.length+Hm (AT its).2)=1+l.length+((AT its).1.length+Hm (AT its).2)
   lia
  rw[e,AF]
  have:=bl hb
  lia
 |@ebrk h cl b l u x r its hb _ ih=>
  have e:Gm (AT (.br []::its))=1+Gm (AT its):=by
   show 0+(1+0+(AT its).1.length+Hm (AT its).2)=1+((AT its).1.length+Hm (AT its).2)
   lia
  rw[e,AQ,AF]
  have:=bl hb
  lia
 |@sign h cl c u x r its _ _ _ _ ih=>
  have e:Gm (AT (.ch c (decide (c∉[32,9]))::its))=1+Gm (AT its):=by
   show(AT its).1.length+1+Hm (AT its).2=1+((AT its).1.length+Hm (AT its).2)
   lia
  rw[e,AQ];lia
 |@esc h cl e v u x r its _ _ ih=>
  have e:Gm (AT (.ch v true::its))=1+Gm (AT its):=by
   show(AT its).1.length+1+Hm (AT its).2=1+((AT its).1.length+Hm (AT its).2)
   lia
  rw[e,AQ,AQ];lia
 |@code h cl e n v hx u x r its _ _ _ _ _ _ ih=>
  have e:Gm (AT (.ch v true::its))=1+Gm (AT its):=by
   show(AT its).1.length+1+Hm (AT its).2=1+((AT its).1.length+Hm (AT its).2)
   lia
  rw[e,AQ,AQ,AF];lia
 |_=>exact BX _
theorem Kt (L:List (List Nat×Ax))(r:Ax):(DT L r).length≤r.length:=by
 unfold DT
 rw[AH]
 rcases GJ L with _|_
 ·exact Ak _
 ·exact O1 r
theorem Kj:∀(L:List (List Nat×Ax)) (k:Nat) (r:Ax),(Dj (k+1) r L).length=L.length+1∧((Dj (k+1) r L).map A9).sum≤r.length+(L.map fun q=>q.2.length).sum
 |[],k,r=>⟨rfl,by
  show(DT [] (DX r)).length+0≤_
  exact AM (Kt _ _) (Ik r)⟩
 |(l,r2)::L,k,r=>by
  have ih:=Kj L (k+1) r2
  refine⟨congrArg (·+1) ih.1,?_⟩
  show(DT _ (DX r)).length+((Dj (k+1+1) r2 L).map A9).sum≤r.length+(r2.length+(L.map fun q=>q.2.length).sum)
  have h1:=AM (Kt ((l,r2)::L) (DX r)) (Ik r)
  have h2:=ih.2
  lia
theorem Me:∀L:List (List Nat×Ax),(L.map fun q=>1+q.1.length+q.2.length).sum=(L.map fun q=>1+q.1.length).sum+(L.map fun q=>q.2.length).sum
 |[]=>rfl
 |q::L=>by
  have ih:=Me L
  simp only[An,List.sum_cons]
  lia
theorem Qp {q:List Nat×Ax}:∀{L:List (List Nat×Ax)},q∈L→q.2.length≤Hm L
 |a::L,h=>by
  show q.2.length≤(1+a.1.length+a.2.length)+Hm L
  rcases AZ.mp h with e|h
  ·rw[e];lia
  ·have:=Qp h;lia
theorem Vm {r:Ax}{L:List (List Nat×Ax)}{r':Ax}(h:r'∈r::L.map (·.2)):r'.length≤Gm (r,L):=by
 unfold Gm
 rcases AZ.mp h with e|h
 ·rw[e];exact BM _ _
 ·refine AM ?_ (BW _ _)
  obtain⟨q,hq,rfl⟩:=Bq.mp h
  exact Qp hq
theorem Qq (r:Ax):∀L:List (List Nat×Ax),L.length≤Gm (r,L)
 |[]=>BX _
 |q::L=>by
  have ih:=Qq r L
  unfold Gm Hm at ih ⊢
  simp only[An,List.sum_cons,AQ] at ih ⊢
  lia
theorem Wr (k:Nat)(r:Ax)(L:List (List Nat×Ax)):(DT L (if k=0 then r else DX r)).length+Ng k r L≤Gm (r,L):=by
 have h0:(DT L (if k=0 then r else DX r)).length≤r.length:=by
  split
  ·exact Kt L r
  ·exact AM (Kt L _) (Ik r)
 unfold Ng Gm Hm
 rcases L with _|⟨q,L⟩
 ·
  show(DT [] (if k=0 then r else DX r)).length+(0+0)≤r.length+0
  exact h0
 ·
  obtain⟨l,r2⟩:=q
  have e:(Dj k r ((l,r2)::L)).tail=Dj (k+1) r2 L:=rfl
  rw[e,Me]
  have h1:=(Kj L k r2).2
  simp only[An,List.sum_cons] at h0 ⊢
  lia
theorem Sl (r:Ax)(L:List (List Nat×Ax)):(Dj 0 r L).length=L.length+1:=by
 rcases L with _|⟨q,L⟩
 ·rfl
 ·exact congrArg (·+1) (Kj L 0 q.2).1
theorem Ml {hs:List O}:∀{J:List Nat} {R:List Ax},Cr hs J R→J.length=R.length
 |[],[],_=>rfl
 |_::_,_::_,h=>congrArg (·+1) (Ml h.2)
 |[],_::_,h=>h.elim
 |_::_,[],h=>h.elim
section
variable {ns:List Int}{a0:O}{ri ei:Nat}{hs:List O}
theorem Vn {J:List Nat}{r0:Ax}{L:List (List Nat×Ax)}(hR:Iz hs ri ei J (r0::L.map (·.2)) (L.map (·.1)))(hw:Gm (r0,L)<lim):
  ∃hs',B5 hs hs'∧AN (S ns) 15 46 [.obj (ri+1),.obj (ei+1)] [] (a0::hs) (sV (DT L r0++FM true L)) (a0::hs'):=by
 have hl:=Qq r0 L
 have hJ:=Ml hR.dn
 rw[AQ,AH] at hJ
 rcases J with _|⟨j,J⟩
 ·exact hR.dn.elim
 have lr:=(AI.mp hR.rw_).1
 have le:=(AI.mp hR.en).1
 have X:=B5.app hs (o:=.list [])
 have dn:Cr (hs++[.list []]) (j::J) (r0::L.map (·.2)):=Cr.keep hR.dn fun i hi=>X.2.1 i (Cr.lt hR.dn i hi)
 refine LQ (UE (ns:=ns) (a0:=a0) (ri:=ri) (ei:=ei) (bi:=hs.length) (val:=.undef) (said:=.undef) (emp:=.undef) (J:=j::J) (L0:=L) (by lia) (by lia) (As lr) (As le) (fun i hi=>As (Cr.lt hR.dn i hi)) (L2:=L) (k:=0) (jk:=j) (J2:=J) (row:=r0) (acc:=[]) (hs:=hs++[.list []]) (kv:=.undef) (rw0:=.undef) rfl rfl (X.get hR.rw_) (X.get hR.en) dn (fun r h=>AM (Vm h) (BU hw)) ga rfl rfl rfl) fun kv rw hs1 ok1 ok2 K g w1=>?_
 have g:hs1[hs.length]? =some (.list ((Dj 0 r0 L).map sV)):=g
 have he:=K.get (As le) (X.get hR.en)
 have hb0:(Dj 0 r0 L)[0]? =some (DT L r0):=by
  refine Do (Lb 0 r0 L) fun t e=>?_
  rw[e];rfl
 have hwB:=Wr 0 r0 L
 rw[if_pos rfl] at hwB
 have hlB:=Sl r0 L
 refine ST (UC (ns:=ns) (a0:=a0) (ri:=ri) (ei:=ei) (bi:=hs.length) (row:=rw) (hs:=hs1) (L0:=L) (Bs:=Dj 0 r0 L) (by lia) (by lia) he g (L2:=L) (k:=0) (v:=DT L r0) (b0:=DT L r0) (r:=r0) (kv:=kv) (sd:=.undef) (emp:=.undef) (p:=true) rfl (BX _) rfl hb0 ⟨fun zz=>.inl rfl,fun zz=>rfl⟩ (by lia) ok1 rfl rfl) fun kv' sd' emp' w2=>?_
 have k0:DV 0 ((Dj 0 r0 L).map sV).length=some 0:=by rw[AH,hlB];exact VM (by lia)
 have k1:((Dj 0 r0 L).map sV)[0]? =some (sV (DT L r0)):=by rw[Aj,hb0];rfl
 have g1:=X.get hR.rw_
 have k2:(sV (DT L r0++FM true L))=sV (DT L r0++FM true L):=rfl
 refine⟨hs1,⟨AM X.1 K.1,fun i hi=>?_,fun n=>K.2.2 (X.2.2 n)⟩,?_⟩
 ·have hn:i≠hs.length:=As hi
  exact(K.2.1 i hn (Am hi X.1)).trans (X.2.1 i hi)
 exact AN.by [.a 1,.v .ob (O.list (AC FW (j::J))),.w (Fl.next) (St.mk (C7 ri ei (A9 hs) kv rw V.undef V.undef V.undef) (a0::hs1)),.v .ob (O.list (AC sV (Dj 0 r0 L))),.v .nat (0),.v .val (sV (DT L r0)),.a 1,.v .ob (O.list (AC sV (AC (fun x=>Fa x) L))),.w (Fl.next) (St.mk (C7 ri ei (A9 hs) kv' rw (sV (DT L r0++FM true L)) sd' emp') (a0::hs1))] (an g1 (an w1 (an g (an k0 (an k1 (an he (an w2 trivial))))))) (by kernel_rfl)
end
noncomputable def PIECES:List (List Nat):=[[97],[32],[10],[98],[92,10],[32,32],[9],[13,10],[39],[92,110],[13],[92,34],[92,92],[10,10],[8232],[92,32],[35,32],[133],[92,13,10],[92,120,52,49],[8233],[92,9],[10,45,45,45],[92,117,50,54,51,97],[92,85,48,48,48,49,102,54,48,48],[10,46,46,46],[92,48],[92,97],[92,98],[92,116],[92,118],[92,102],[92,114],[92,101],[92,47],[92,78],[92,95],[92,76],[92,80],[92,8232],[92,120,69,57],[92,133],[233],[58,32],[92,117,70,101,70,102],[45]]
noncomputable def FAULTS:List (List Nat):=[[],[],[],[92,113],[],[92,120,52],[],[92,39],[92,117,48,48],[92,85,48,48,48,49,70,54],[],[]]
noncomputable abbrev So:List V:=VF (SW (Bv Ly 36))
theorem Rc:So=PIECES.map sV:=by
 have e:So=["a"," ","\n","b","\\\n","  ","\t","\r\n","'","\\n","\r","\\\"","\\\\","\n\n","\u2028","\\ ","# ","\x85","\\\r\n","\\x41","\u2029","\\\t","\n---","\\u263a","\\U0001f600","\n...","\\0","\\a","\\b","\\t","\\v","\\f","\\r","\\e","\\/","\\N","\\_","\\L","\\P","\\\u2028","\\xE9","\\\x85","é",": ","\\uFeFf","-"].map fun s=>V.str (A8 s):=by kernel_rfl
 rw[e]
 have:(["a"," ","\n","b","\\\n","  ","\t","\r\n","'","\\n","\r","\\\"","\\\\","\n\n","\u2028","\\ ","# ","\x85","\\\r\n","\\x41","\u2029","\\\t","\n---","\\u263a","\\U0001f600","\n...","\\0","\\a","\\b","\\t","\\v","\\f","\\r","\\e","\\/","\\N","\\_","\\L","\\P","\\\u2028","\\xE9","\\\x85","é",": ","\\uFeFf","-"].map fun s=>A8 s)=PIECES.map fun l=>(⟨l.toArray⟩:Str):=by decide+kernel
 have q:=congrArg (AC V.str) this
 rw[DN,DN] at q
 exact q
theorem Hu (n:Int)(b:Nat)(hb:0<b):(n.fmod (b:Int)).toNat<b∧n.fmod (b:Int)=((n.fmod (b:Int)).toNat:Int):=by
 have h1:=Int.fmod_nonneg_of_pos n (b:=(b:Int)) (Int.natCast_pos.mpr hb)
 have h2:=Int.fmod_lt_of_pos n (b:=(b:Int)) (Int.natCast_pos.mpr hb)
 exact⟨(Int.toNat_lt h1).mpr h2,(FQ h1).symm⟩
noncomputable def HV (n:Int):List Nat:=PIECES.getD (n.fmod 46).toNat []
theorem XS (n:Int):DV (n.fmod 46) So.length=some (n.fmod 46).toNat:=by
 have h:=Hu n 46 (by decide)
 have e:So.length=46:=by rw[Rc];rfl
 rw[e]
 have h2:n.fmod 46=((n.fmod 46).toNat:Int):=h.2
 rw[h2]
 exact E4 (by decide) h.1
theorem Re (n:Int):So[(n.fmod 46).toNat]? =some (sV (HV n)):=by
 have h:=(Hu n 46 (by decide)).1
 rw[Rc,Aj]
 have:PIECES[(n.fmod 46).toNat]? =some (HV n):=by
  unfold HV
  rw[C3]
  have hl:(n.fmod 46).toNat<PIECES.length:=h
  rw[DO hl];rfl
 rw[this];rfl
noncomputable def MR:Expr:=SW (Bv (C9 47) 1)
noncomputable abbrev JO (a:V):List (Str×V):=[(".0",.undef),("n",a),("_law_PIECES",.sta 2)]
section
variable {ns:List Int}{a0:O}{i j:Nat}
theorem pieces (hij:i≠j):∀{suf pre:List Int} {acc:List (List Nat)} {hs:List O} {a:V},Az a=true→hs[j]? =some (.list ((pre++suf).map .int))→hs[i]? =some (.list (acc.map sV))→acc.length+suf.length≤lim→
  ∃a',Ea (S ns) 15 (IA MR) (Hy MR) [] (.list (j+1) false) pre.length (i+1) ⟨JO a,a0::hs⟩ ⟨JO a',a0::hs.set i (.list ((acc++suf.map HV).map sV))⟩:=by
 intro suf
 induction suf with
 |nil=>
  intro pre acc hs a oa hj hi hz
  have k0:D4 pre.length ((pre++[]).map V.int).length=true:=Eh (by simp)
  have k:some ((((pre++[]).map V.int)[pre.length]?).map (Fw false pre.length))=some none:=by simp
  rw[show acc++AC HV []=acc from AK _,Kx hi]
  refine⟨a,?_⟩
  exact Ea.by [.v .ob (O.list (AC V.int (pre++[]))),.t,.v .oval (none)] (an hj (an k0 (an k trivial))) (by kernel_rfl)
 |cons n suf ih=>
  intro pre acc hs a oa hj hi hz
  have k0:D4 pre.length ((pre++n::suf).map V.int).length=true:=Eh (by simp)
  have k:some ((((pre++n::suf).map V.int)[pre.length]?).map (Fw false pre.length))=some (some (.int n)):=by simp;rfl
  have i1:=XS n
  have i2:=Re n
  have ok:BF (acc.map sV).length=true:=At (by rw[AH];exact AM (BM _ _) hz)
  have hi2:(hs.set i (.list (acc.map sV++[sV (HV n)])))[i]? =some (.list ((acc++[HV n]).map sV)):=by rw[Aa];exact gs hi
  have hj2:(hs.set i (.list (acc.map sV++[sV (HV n)])))[j]? =some (.list (((pre++[n])++suf).map .int)):=by rw[AB];exact gn hij hj
  obtain⟨a',e⟩:=ih (pre:=pre++[n]) (acc:=acc++[HV n]) (a:=.int n) rfl hj2 hi2 (by rw[AF,BZ];rw[AQ] at hz;lia)
  rw[AF (bs:=[n]),Fd,AB] at e
  refine⟨a',?_⟩
  have e:Ea (S ns) 15 (IA MR) (Hy MR) [] (.list (j+1) false) (pre.length+1) (i+1) ⟨JO (.int n),a0::hs.set i (.list (acc.map sV++[sV (HV n)]))⟩ ⟨JO a',a0::hs.set i (.list ((acc++AC HV (n::suf)).map sV))⟩:=e
  refine Ea.go (s1:=St.mk [(A8 ".0",V.undef),(A8 "n",V.int n),(A8 "_law_PIECES",V.sta 2)] (a0::Bb hs i (O.list (AC sV acc++[sV (HV n)])))) [.v .ob (O.list (AC V.int (pre++n::suf))),.t,.v .oval (some (V.int n)),.t,.a 2,.v .nat (E9 (Int.fmod n 46)),.v .val (sV (HV n)),.v .ob (O.list (AC sV acc)),.t] ?_ (an hj (an k0 (an k (an (B8 (u:=a) (v:=V.int n) (h:=oa) (h2:=(by rfl))) (an i1 (an i2 (an hi (an ok trivial)))))))) (by kernel_rfl)
  exact e
end
noncomputable def RZ (a b:Nat):List Stmt:=((C9 47).drop a).take b
noncomputable abbrev I3 (first pieces place text rows ends closed «where» scanner token fault mark after:V):List (Str×V):=[("script",.sta 9),("first",first),("pieces",pieces),("place",place),("text",text),("rows",rows),("ends",ends),("closed",closed),("where",«where»),("scanner",scanner),("token",token),("fault",fault),("mark",mark),("after",after),("len",.bi "len"),("_law_FAULTS",.fn 39),("_law_rows",.fn 45),("Scanner",.cls 8),("isinstance",.bi "isinstance"),("StreamStartToken",.cls 1),("ScannerError",.cls 9),("ScalarToken",.cls 6),("StreamEndToken",.cls 2),("_law_value",.fn 46)]
section
variable {ns:List Int}
noncomputable abbrev Ky (ns:List Int):List V:=Ad (AC V.int ns) (min 1 (AC V.int ns).length) (min 23 (AC V.int ns).length)
noncomputable def PE (ns:List Int):List Int:=Ad ns (min 1 ns.length) (min 23 ns.length)
theorem Z9:Ky ns=(PE ns).map V.int:=by
 unfold Ky PE Ad
 rw[AH,←List.map_take,←List.map_drop]
theorem O0 (h:ns.length≤63):(PE ns).length≤22:=by
 rcases ns with _|⟨n,ns⟩
 ·exact BX _
 ·unfold PE Ad
  rw[Ci,List.length_take]
  have e:min 1 (n::ns).length=1:=ES (Nat.succ_pos _)
  rw[e]
  exact Nat.sub_le_sub_right (AM (Nat.min_le_left ..) (Nat.min_le_left ..)) 1
noncomputable def psN (ns:List Int):List (List Nat):=(PE ns).map HV
theorem YM (h:ns.length≤63):∃a',Ea (S ns) 15 (IA MR) (Hy MR) [] (.list 1 false) 0 2 ⟨JO .undef,[.void,.list (Ky ns),.list []]⟩ ⟨JO a',[.void,.list (Ky ns),.list ((psN ns).map sV)]⟩:=
 pieces (ns:=ns) (a0:=.void) (i:=1) (j:=0) (by decide) (suf:=PE ns) (pre:=[]) (acc:=[]) (hs:=[.list (Ky ns),.list []]) (a:=.undef) rfl (by rw[Z9];rfl) rfl (by have:=O0 h;show 0+_≤1000000;lia)
theorem Xw (h:ns.length≤63):∃f p:Nat,f<12∧p≤(psN ns).length∧CR (S ns) 16 (RZ 0 3) ⟨I3 .undef .undef .undef .undef .undef .undef .undef .undef .undef .undef .undef .undef .undef,[.void]⟩ .next ⟨I3 (.int (f:Int)) (.obj 2) (.int (p:Int)) .undef .undef .undef .undef .undef .undef .undef .undef .undef .undef,[.void,.list (Ky ns),.list ((psN ns).map sV)]⟩:=by
 refine Do (YM h) fun a' e=>?_
 have h0:BF (ns.map V.int).length=true:=At (by rw[AH];show _≤1000000;lia)
 have lp:(psN ns).length≤22:=by unfold psN;rw[AH];exact O0 h
 have h1:BF ((psN ns).map sV).length=true:=At (by rw[AH];show _≤1000000;lia)
 rcases ns with _|⟨n,ns⟩
 ·
  refine⟨0,0,by decide,BX _,?_⟩
  have k0:decide ((([]:List Int).map V.int).length≠0)=false:=rfl
  exact CR.by [.a 7,.m (St.mk (JO a') [O.void,O.list (Ky []),O.list (AC sV (psN []))]),.a 4] (an e trivial) (by kernel_rfl)
 ·
  have k0:decide (((n::ns).map V.int).length≠0)=true:=rfl
  have k1:DV 0 ((n::ns).map V.int).length=some 0:=E4 (k:=0) (by rw[AH];show _≤1000000;lia) (Nat.succ_pos _)
  have k2:((n::ns).map V.int)[0]? =some (.int n):=rfl
  have hl:(n::ns).length - 1<(n::ns).length:=Nat.lt_succ_self _
  obtain⟨m,hm⟩:∃m,(n::ns)[(n::ns).length - 1]? =some m:=⟨_,DO hl⟩
  have k3:DV (-1) ((n::ns).map V.int).length=some ((n::ns).length - 1):=by
   rw[AH]
   have h':(n::ns).length≤1000000:=by lia
   have hp:(n::ns).length=ns.length+1:=rfl
   unfold DV
   rw[if_pos h',if_neg (by decide),if_pos (by lia)]
   congr 1
   lia
  have k4:((n::ns).map V.int)[(n::ns).length - 1]? =some (.int m):=by rw[Aj,hm];rfl
  have q1:=Hu n 12 (by decide)
  have q2:=Hu m (((psN (n::ns)).map sV).length+1) (Nat.succ_pos _)
  have q3:=AM (Nat.le_of_lt_succ q2.1) (Bp (AH ..))
  refine⟨(n.fmod 12).toNat,(m.fmod ((((psN (n::ns)).map sV).length+1:Nat):Int)).toNat,q1.1,q3,?_⟩
  have e1:((n.fmod 12).toNat:Int)=n.fmod 12:=q1.2.symm
  rw[e1,←q2.2]
  exact CR.by [.t,.t,.v .nat (0),.v .val (V.int n),.a 2,.t,.v .nat (min 1 (A9 (AC V.int (n::ns)))),.v .nat (min 23 (A9 (AC V.int (n::ns)))),.a 1,.m (St.mk (JO a') [O.void,O.list (Ky (n::ns)),O.list (AC sV (psN (n::ns)))]),.a 1,.t,.t,.v .nat (A9 (n::ns) - 1),.v .val (V.int m),.a 1,.t,.t,.a 1] (an h0 (an k0 (an k1 (an k2 (an h0 (an (Aw (n:=A9 (AC V.int (n::ns))) (k:=1) (d:=0)) (an (Aw (n:=A9 (AC V.int (n::ns))) (k:=23) (d:=A9 (AC V.int (n::ns)))) (an e (an h0 (an k0 (an k3 (an k4 (an h1 (an k0 trivial)))))))))))))) (by kernel_rfl)
end
noncomputable def Ek (f:Nat):List Nat:=FAULTS.getD f []
noncomputable def uN (ps:List (List Nat))(f p:Nat):List Nat:=((ps.take p)++[Ek f]++(ps.drop p)).flatten++(if f=11 then[] else[34])
theorem Wa {f:Nat}(h:f<12):(FAULTS.map sV)[f]? =some (sV (Ek f)):=by
 rw[Aj]
 have:FAULTS[f]? =some (Ek f):=by
  unfold Ek
  rw[C3]
  have hl:f<FAULTS.length:=h
  rw[DO hl];rfl
 rw[this];rfl
section
variable {ns:List Int}{a0:O}{hs:List O}
theorem Zd:AN (S ns) 15 39 [] [] (a0::hs) (.obj (hs.length+1)) (a0::(hs++[.list (FAULTS.map sV)])):=by
 have e:FAULTS.map sV=[.str "",.str "",.str "",.str "\\q",.str "",.str "\\x4",.str "",.str "\\'",.str "\\u00",.str "\\U0001F6",.str "",.str ""]:=by
  have:FAULTS.map (fun l=>(⟨l.toArray⟩:Str))=(["","","","\\q","","\\x4","","\\'","\\u00","\\U0001F6","",""]:List Str):=by decide+kernel
  have q:=congrArg (AC V.str) this
  rw[DN] at q
  exact q
 rw[e]
 exact AN.by [] trivial (by kernel_rfl)
theorem OC {k:Nat}:∀{l:List (List Nat)},(∀x∈l,x.length≤k)→l.flatten.length≤k * l.length
 |[],_=>BX _
 |a::l,h=>by
  rw[G4,AF,AQ,Nat.mul_succ,BY]
  exact DD (OC fun x hx=>h x (.tail _ hx)) (h a (.head _))
theorem Y4 {f:Nat}(h:f<12):(Ek f).length≤10:=(by decide:∀f,f<12→(Ek f).length≤10) f h
noncomputable abbrev wN (ps:List (List Nat))(f p:Nat):List (List Nat):=(ps.take p)++[Ek f]++(ps.drop p)
theorem Up {ps:List (List Nat)}{f p:Nat}(hf:f<12)(hl:ps.length≤22)(h10:∀x∈ps,x.length≤10):(wN ps f p).flatten.length≤230:=by
 refine AM (OC (k:=10) fun x hx=>?_) ?_
 ·rcases BB.mp hx with hx|hx
  ·rcases BB.mp hx with hx|hx
   ·exact h10 x (List.mem_of_mem_take hx)
   ·rw[Ac.mp hx];exact Y4 hf
  ·exact h10 x (List.mem_of_mem_drop hx)
 ·rw[show(wN ps f p).length=ps.length+1 by rw[AF,AF,Nat.add_right_comm,←AF,DF];rfl]
  exact Nat.mul_le_mul_left 10 (F5 hl)
theorem TK {ps:List (List Nat)}{p:Nat}(hp:p≤ps.length):Ad (AC sV ps) 0 (min p (AC sV ps).length)=(ps.take p).map sV:=by
 unfold Ad
 rw[AH,ES hp,List.drop_zero,List.map_take]
theorem X8 {ps:List (List Nat)}{p:Nat}(hp:p≤ps.length):Ad (AC sV ps) (min p (AC sV ps).length) (AC sV ps).length=(ps.drop p).map sV:=by
 unfold Ad
 rw[List.take_length,AH,ES hp,List.map_drop]
theorem Yt {ps:List (List Nat)}{f p:Nat}(hp:p≤ps.length):Ad (AC sV ps) 0 (min p (AC sV ps).length)++[sV (Ek f)]++Ad (AC sV ps) (min p (AC sV ps).length) (AC sV ps).length=(wN ps f p).map sV:=by
 rw[TK hp,X8 hp,Aa,Aa]
 rfl
theorem Wx {ps:List (List Nat)}{f p:Nat}{L1:List V}(hf:f<12)(hp:p≤ps.length)(hl:ps.length≤22)(h10:∀x∈ps,x.length≤10):∃hs',DY hs'∧CR (S ns) 16 (RZ 3 1) ⟨I3 (.int (f:Int)) (.obj 2) (.int (p:Int)) .undef .undef .undef .undef .undef .undef .undef .undef .undef .undef,[.void,.list L1,.list (ps.map sV)]⟩ .next ⟨I3 (.int (f:Int)) (.obj 2) (.int (p:Int)) (sV (34::uN ps f p)) .undef .undef .undef .undef .undef .undef .undef .undef .undef,.void::hs'⟩:=by
 have h1:BF (ps.map sV).length=true:=At (by rw[AH];show _≤1000000;lia)
 have e1:=Zd (ns:=ns) (a0:=.void) (hs:=[.list L1,.list (ps.map sV),.list (Ad (AC sV ps) 0 (min p (AC sV ps).length))])
 have k1:DV (f:Int) (FAULTS.map sV).length=some f:=E4 (by decide) hf
 have k2:=Wa hf
 have eW:=Yt (f:=f) hp
 have la:=AM (List.length_take_le p ps) hp
 have k3:BF ((Ad (AC sV ps) 0 (min p (AC sV ps).length)).length+1)=true:=At (by rw[TK hp,AH];show _≤1000000;lia)
 have k4:BF ((Ad (AC sV ps) 0 (min p (AC sV ps).length)++[sV (Ek f)]).length+(Ad (AC sV ps) (min p (AC sV ps).length) (AC sV ps).length).length)=true:=At (by rw[AF,TK hp,X8 hp,AH,AH,Ci,BZ];show _≤1000000;lia)
 have jt:=KP (ys:=wN ps f p)
 have jt:Lu (Ad (AC sV ps) 0 (min p (AC sV ps).length)++[sV (Ek f)]++Ad (AC sV ps) (min p (AC sV ps).length) (AC sV ps).length)=some ((wN ps f p).map fun y=>(⟨y.toArray⟩:Str)):=by rw[eW];exact jt
 have hj:=Up (p:=p) hf hl h10
 have jo:=MF (ys:=wN ps f p) (AM hj (by decide))
 have jf:=I6 (wN ps f p)
 have z1:(A8 "\"").cps.size=1:=rfl
 have z0:(A8 "").cps.size=0:=rfl
 have zc:∀(l:List Nat),((A8 "\"")++(⟨l.toArray⟩:Str)).cps.size=1+l.length:=fun l=>by
  show(#[34]++l.toArray).size=_
  rw[Array.size_append];rfl
 have m1:BF ((A8 "\"").cps.size+(DB (A8 "") ((wN ps f p).map fun y=>(⟨y.toArray⟩:Str))).cps.size)=true:=At (by rw[jf,z1];show 1+(wN ps f p).flatten.length≤1000000;lia)
 have m2:BF ((A8 "\""++DB (A8 "") ((wN ps f p).map fun y=>(⟨y.toArray⟩:Str))).cps.size+(A8 "").cps.size)=true:=At (by rw[jf,z0,zc];show _≤1000000;lia)
 have m3:BF ((A8 "\""++DB (A8 "") ((wN ps f p).map fun y=>(⟨y.toArray⟩:Str))).cps.size+(A8 "\"").cps.size)=true:=At (by rw[jf,z1,zc];show _≤1000000;lia)
 by_cases q:f=11
 ·have q1:decide ((f:Int)=11)=true:=decide_eq_true (by lia)
  have et:V.str (A8 "\""++DB (A8 "") ((wN ps f p).map fun y=>(⟨y.toArray⟩:Str))++A8 "")=sV (34::uN ps f p):=by
   rw[jf];unfold uN;rw[if_pos q,AK]
   refine congrArg V.str (FA.mpr ?_)
   show((#[34]++((wN ps f p).flatten).toArray)++ #[]).toList=_
   simp
  rw[←et]
  refine⟨[.list L1,.list (ps.map sV),.list (Ad (AC sV ps) 0 (min p (AC sV ps).length)),.list (FAULTS.map sV),.list [sV (Ek f)],.list (Ad (AC sV ps) 0 (min p (AC sV ps).length)++[sV (Ek f)]),.list (Ad (AC sV ps) (min p (AC sV ps).length) (AC sV ps).length),.list (Ad (AC sV ps) 0 (min p (AC sV ps).length)++[sV (Ek f)]++Ad (AC sV ps) (min p (AC sV ps).length) (AC sV ps).length)],rfl,?_⟩
  exact CR.by [.a 1,.t,.a 1,.v .nat (min p (A9 (AC sV ps))),.c (V.obj (A9 [O.list L1,O.list (AC sV ps),O.list (Ad (AC sV ps) 0 (min p (A9 (AC sV ps))))]+1)) (O.void::([O.list L1,O.list (AC sV ps),O.list (Ad (AC sV ps) 0 (min p (A9 (AC sV ps))))]++[O.list (AC sV FAULTS)])),.a 1,.v .nat (f),.v .val (sV (Ek f)),.a 2,.t,.a 1,.t,.v .nat (min p (A9 (AC sV ps))),.a 3,.t,.a 1,.v .strs (AC (fun y=>Str.mk (AE y)) (wN ps f p)),.t,.t,.t,.t,.a 1] (an h1 (an (Aw (n:=A9 (AC sV ps)) (k:=p) (d:=A9 (AC sV ps))) (an e1 (an k1 (an k2 (an k3 (an h1 (an (Aw (n:=A9 (AC sV ps)) (k:=p) (d:=0)) (an k4 (an jt (an jo (an m1 (an q1 (an m2 trivial)))))))))))))) (by kernel_rfl)
 ·have q1:decide ((f:Int)=11)=false:=decide_eq_false (by lia)
  have et:V.str (A8 "\""++DB (A8 "") ((wN ps f p).map fun y=>(⟨y.toArray⟩:Str))++A8 "\"")=sV (34::uN ps f p):=by
   rw[jf];unfold uN;rw[if_neg q]
   refine congrArg V.str (FA.mpr ?_)
   show((#[34]++((wN ps f p).flatten).toArray)++ #[34]).toList=_
   simp
  rw[←et]
  refine⟨[.list L1,.list (ps.map sV),.list (Ad (AC sV ps) 0 (min p (AC sV ps).length)),.list (FAULTS.map sV),.list [sV (Ek f)],.list (Ad (AC sV ps) 0 (min p (AC sV ps).length)++[sV (Ek f)]),.list (Ad (AC sV ps) (min p (AC sV ps).length) (AC sV ps).length),.list (Ad (AC sV ps) 0 (min p (AC sV ps).length)++[sV (Ek f)]++Ad (AC sV ps) (min p (AC sV ps).length) (AC sV ps).length)],rfl,?_⟩
  exact CR.by [.a 1,.t,.a 1,.v .nat (min p (A9 (AC sV ps))),.c (V.obj (A9 [O.list L1,O.list (AC sV ps),O.list (Ad (AC sV ps) 0 (min p (A9 (AC sV ps))))]+1)) (O.void::([O.list L1,O.list (AC sV ps),O.list (Ad (AC sV ps) 0 (min p (A9 (AC sV ps))))]++[O.list (AC sV FAULTS)])),.a 1,.v .nat (f),.v .val (sV (Ek f)),.a 2,.t,.a 1,.t,.v .nat (min p (A9 (AC sV ps))),.a 3,.t,.a 1,.v .strs (AC (fun y=>Str.mk (AE y)) (wN ps f p)),.t,.t,.f,.t,.a 1] (an h1 (an (Aw (n:=A9 (AC sV ps)) (k:=p) (d:=A9 (AC sV ps))) (an e1 (an k1 (an k2 (an k3 (an h1 (an (Aw (n:=A9 (AC sV ps)) (k:=p) (d:=0)) (an k4 (an jt (an jo (an m1 (an q1 (an m3 trivial)))))))))))))) (by kernel_rfl)
end
noncomputable def Md:List Nat→Bool
 |[]=>true
 |c::r=>if c=34 then false else if c=92 then(match r with
  |[]=>false
  |e::r'=>(!(decide (e=85))||H4 r')&&Md r') else Md r
theorem Z2 (c:Nat)(r:List Nat):Md (c::r)=if c=34 then false else if c=92 then(match r with
  |[]=>false
  |e::r'=>(!(decide (e=85))||H4 r')&&Md r') else Md r:=by rcases r with _|_<;>rfl
theorem Rm {a:List Nat}(h:H4 a=true)(r:List Nat):H4 (a++r)=true:=by
 obtain⟨b,rfl⟩:=PQ h
 rfl
theorem Vp:∀(n:Nat) (x r:List Nat),x.length≤n→Md x=true→Fx r=true→Fx (x++r)=true:=by
 intro n
 induction n with
 |zero=>
  intro x r hn h hr
  rcases x with _|_
  ·exact hr
  ·cases hn
 |succ n ih=>
  intro x r hn h hr
  rcases x with _|⟨c,x⟩
  ·exact hr
  ·
   rw[Z2] at h
   rw[B0]
   rw[Kz]
   by_cases h1:c=34
   ·rw[if_pos h1] at h;cases h
   ·rw[if_neg h1] at h ⊢
    by_cases h2:c=92
    ·rw[if_pos h2] at h ⊢
     rcases x with _|⟨e,x⟩
     ·cases h
     ·
      have h:((!(decide (e=85))||H4 x)&&Md x)=true:=h
      rw[BV,Du] at h
      show((!(decide (e=85))||H4 (x++r))&&Fx (x++r))=true
      rw[BV,Du]
      exact⟨h.1.imp id fun q=>Rm q r,ih x r (by rw[AQ] at hn;simp at hn;lia) h.2 hr⟩
    ·rw[if_neg h2] at h ⊢
     exact ih x r (Nat.le_of_succ_le_succ hn) h hr
theorem Vq:∀x∈PIECES++FAULTS,Md x=true:=by decide+kernel
theorem TY:∀x∈PIECES++FAULTS,∀c∈x,c∈[9,10,13,133]∨(32≤c∧c≤126)∨c=233∨c=8232∨c=8233:=by decide+kernel
theorem PT:∀x∈PIECES,x.length≤10:=by decide+kernel
theorem Y5 {f:Nat}(h:f<12):Ek f∈FAULTS:=(by decide+kernel:∀f,f<12→Ek f∈FAULTS) f h
theorem ZJ (n:Int):HV n∈PIECES:=by
 have h:=Re n
 have h2:=(Hu n 46 (by decide)).1
 unfold HV
 rw[C3]
 have hl:(n.fmod 46).toNat<PIECES.length:=h2
 rw[DO hl]
 exact List.getElem_mem hl
theorem ZI {ns:List Int}:∀x∈psN ns,x∈PIECES:=by
 intro x hx
 unfold psN at hx
 obtain⟨n,_,rfl⟩:=Bq.mp hx
 exact ZJ n
theorem Wt {ps:List (List Nat)}{f p:Nat}(hp:∀x∈ps,x∈PIECES)(hf:f<12):∀x∈wN ps f p,x∈PIECES++FAULTS:=by
 intro x hx
 rcases BB.mp hx with hx|hx
 ·rcases BB.mp hx with hx|hx
  ·exact B3 _ (hp x (List.mem_of_mem_take hx))
  ·rw[Ac.mp hx];exact AX _ (Y5 hf)
 ·exact B3 _ (hp x (List.mem_of_mem_drop hx))
theorem O2 {t:List Nat}(ht:Fx t=true):∀{W:List (List Nat)},(∀x∈W,x∈PIECES++FAULTS)→Fx (W.flatten++t)=true
 |[],_=>ht
 |x::W,h=>by
  rw[G4,AB]
  exact Vp x.length x _ (Ak _) (Vq x (h x (.head _))) (O2 ht fun y hy=>h y (.tail _ hy))
theorem Wv {ps:List (List Nat)}{f p:Nat}(hp:∀x∈ps,x∈PIECES)(hf:f<12):∀c∈uN ps f p,c∈[9,10,13,133]∨(32≤c∧c≤126)∨c=233∨c=8232∨c=8233:=by
 intro c hc
 unfold uN at hc
 rcases BB.mp hc with hc|hc
 ·refine AR (List.mem_flatten.mp hc) fun x hx hc=>?_
  exact TY x (Wt hp hf x hx) c hc
 ·split at hc
  ·cases hc
  ·rw[Ac.mp hc];exact .inr (.inl (by decide))
theorem Yy {ps:List (List Nat)}{f p:Nat}(hp:∀x∈ps,x∈PIECES)(hf:f<12):Fx (uN ps f p)=true:=by
 unfold uN
 refine O2 ?_ (Wt hp hf)
 split<;>rfl
theorem Yz {ps:List (List Nat)}{f p:Nat}(hl:ps.length≤22)(hp:∀x∈ps,x∈PIECES)(hf:f<12):(uN ps f p).length≤231:=by
 unfold uN
 rw[AF]
 have:=Up (p:=p) hf hl fun x hx=>PT x (hp x hx)
 have h2:(if f=11 then([]:List Nat) else[34]).length≤1:=by split<;>decide
 exact DD this h2
theorem Ig {c:Nat}(h:c∈[9,10,13,133]∨(32≤c∧c≤126)∨c=233∨c=8232∨c=8233):JZ c∧c≠0∧c<1114112∧c≠65279:=by
 have k:c∈[9,10,13,133]→c=9∨c=10∨c=13∨c=133:=by simp
 refine⟨?_,?_,?_,?_⟩
 ·unfold JZ
  rcases h with h|h|h|h|h
  ·exact .inl h
  ·exact .inr (.inl h)
  ·subst h;decide
  ·subst h;decide
  ·subst h;decide
 all_goals
  rcases h with h|h|h|h|h
  ·have:=k h;lia
  ·lia
  ·lia
  ·lia
  ·lia
section
variable {ns:List Int}{d:Nat}{hs:List O}
theorem PA {L:List Nat}(hL:∀c∈L,JZ c)(hz:L.length+1≤lim)(nf:DY hs):∃t i k h1,Rd (Et (L++[0]) t i k) (L++[0])∧CE hs h1 (Et (L++[0]) t i k) [GV (L++[0])] []∧AN (S ns) (d+5) 14 [.obj 0,.str ⟨L.toArray⟩] [] (.inst 8 []::hs) .none (scO (Et (L++[0]) t i k)::h1):=
 ⟨_,_,_,_,⟨rfl,by show(L++[0]).length≤lim;rw[AF];exact hz⟩,Zc nf,Xk hL hz⟩
theorem WK {u x r:List Nat}{its:List ET}{cl:Bool}(q:Pz false u its x cl r)(hu:∀c∈u,c≠65279):Hs ((34::u)++[0]) (x.length+1) 0 (0,0)=((AT its).2.length,1+x.length - hdN x 1 0):=by
 have e:=XP q (B:=(34::u)++[0]) (p:=1) (hd:=0) (ln:=0) rfl hu (BX _)
 unfold H3 at e
 rw[CS] at e
 exact e
noncomputable abbrev PM (u x:List Nat)(its:List ET):V:=.rcd 0 (Jt "<unicode string>" ((1+x.length:Nat):Int) ((AT its).2.length:Int) ((1+x.length - hdN x 1 0:Nat):Int) ⟨((34::u)++[0]).toArray⟩ ((1+x.length:Nat):Int))
theorem PN {u x r:List Nat}{its:List ET}{cl:Bool}{t i k:Nat}(q:Pz false u its x cl r)(hu:∀c∈u,c≠65279):mk (AL (x.length+1) {Dv (Et ((34::u)++[0]) t i k) with ask:=false})=PM u x its:=by
 have e:=WK q hu
 show V.rcd 0 (Jt "<unicode string>" ((0+(x.length+1):Nat):Int) ((Hs ((34::u)++[0]) (x.length+1) 0 (0,0)).1:Int) ((Hs ((34::u)++[0]) (x.length+1) 0 (0,0)).2:Int) ⟨((34::u)++[0]).toArray⟩ ((0+(x.length+1):Nat):Int))=_
 rw[e,CS,BY x.length 1]
end
theorem P7 (a b c:Int):IF (.tup [.int a,.int b,.int c]) (.tup [.int a,.int b,.int c])=some true:=by
 show(bif decide (a=a) then _ else _)=_
 rw[decide_eq_true rfl]
 show(bif decide (b=b) then _ else _)=_
 rw[decide_eq_true rfl]
 show(bif decide (c=c) then _ else _)=_
 rw[decide_eq_true rfl]
 rfl
section
variable {ns:List Int}{hs:List O}{f P p:V}
theorem Zt {u x r:List Nat}{its:List ET}(q:Pz false u its x false r)(hu:∀c∈u,c≠0∧c<1114112)(hb:∀c∈u,c≠65279)(hp:∀c∈34::u,JZ c)(hz:u.length≤231)(nf:DY hs):
  ∃l' h',CR (S ns) 16 (RZ 4 8) ⟨I3 f P p (sV (34::u)) .undef .undef .undef .undef .undef .undef .undef .undef .undef,.void::hs⟩ (.ret (.bool true)) ⟨l',h'⟩:=by
 refine El (RS (ns:=ns) (a0:=.void) (hs:=hs) (B:=34::u) q ⟨rfl,by show(34::u).length≤1000000;rw[AQ];lia⟩ (by show _≤1000000;lia)) fun hs2 J ri ei X R e1=>?_
 refine El (PA (ns:=ns) (d:=10) (hs:=hs2) hp (by rw[AQ];show _≤1000000;lia) (X.2.2 nf)) fun t i k h1 rd f0 e2=>?_
 refine AR (Y3 (ns:=ns) (d:=11) f0 rfl) fun h3 f1 e3=>?_
 have hx:EU x (r++[0]):=(Uw q hu (fun z=>nomatch z)).ns (fun z=>nomatch z)
 have rd1:Rd (Dv (Et ((34::u)++[0]) t i k)) (34::(x++(r++[0]))):=⟨by rw[←AB,←(L4 q).1];rfl,rd.z⟩
 refine Dm (ON (ns:=ns) (d:=4) hx rd1 f1 rfl rfl) fun v h4 hv e4=>?_
 rw[PN q hb] at hv
 obtain⟨ct,pr,rfl⟩:=hv
 have hc:((1+x.length:Nat):Int) - (hdN x 1 0:Int)=((1+x.length - hdN x 1 0:Nat):Int):=(Int.ofNat_sub (OK x (p:=1) (hd:=0) (BX _))).symm
 rw[hc] at e1
 have tq:IF (.tup [.int ((1+x.length:Nat):Int),.int ((AT its).2.length:Int),.int ((1+x.length - hdN x 1 0:Nat):Int)]) (.tup [.int ((1+x.length:Nat):Int),.int ((AT its).2.length:Int),.int ((1+x.length - hdN x 1 0:Nat):Int)])=some true:=P7 _ _ _
 refine⟨[],h4,?_⟩
 exact CR.by [.c (V.tup [V.obj (ri+1),V.obj (ei+1),V.bool false,V.tup [V.int (↑(1+A9 x):Int),V.int (↑(A9 (Prod.snd (AT its))):Int),V.int (↑(1+A9 x - hdN x 1 0):Int)]]) (O.void::hs2),.a 4,.c (V.none) (scO (Et (34::u++[0]) t i k)::h1),.a 1,.c (GV (34::u++[0])) (scO (Dv (Et (34::u++[0]) t i k))::h3),.a 1,.x (V.rcd 9 (Cq ct (mk (Sc.mk (Sc.B (Dv (Et (34::u++[0]) t i k))) (Sc.p (Dv (Et (34::u++[0]) t i k))) (Sc.ix (Dv (Et (34::u++[0]) t i k))) (Sc.ln (Dv (Et (34::u++[0]) t i k))) (Sc.cl (Dv (Et (34::u++[0]) t i k))) (Sc.dn (Dv (Et (34::u++[0]) t i k))) (Sc.tk (Dv (Et (34::u++[0]) t i k))) (Sc.tn (Dv (Et (34::u++[0]) t i k))) (Sc.ind (Dv (Et (34::u++[0]) t i k))) false (Sc.keys (Dv (Et (34::u++[0]) t i k))))) pr (PM u x its))) (h4),.a 3,.v .bool (true),.a 1] (an e1 (an e2 (an e3 (an e4 (an tq trivial))))) (by kernel_rfl)
end
section
variable {ns:List Int}{hs:List O}{f P p:V}
theorem Iz.kept {h h':List O}{ri ei:Nat}{J:List Nat}{R:List Ax}{es:List (List Nat)}(r:Iz h ri ei J R es)(k:∀j,j<h.length→h'[j]? =h[j]?):Iz h' ri ei J R es:=
 ⟨(k _ (AI.mp r.rw_).1).trans r.rw_,(k _ (AI.mp r.en).1).trans r.en,Cr.keep r.dn fun j hj=>k j (Cr.lt r.dn j hj)⟩
theorem Xz {u x:List Nat}{its:List ET}(q:Pz false u its x true [])(hu:∀c∈u,c≠0∧c<1114112)(hb:∀c∈u,c≠65279)(hp:∀c∈34::u,JZ c)(hz:u.length≤231)(nf:DY hs):
  ∃l' h',CR (S ns) 16 (RZ 4 8) ⟨I3 f P p (sV (34::u)) .undef .undef .undef .undef .undef .undef .undef .undef .undef,.void::hs⟩ (.ret (.bool true)) ⟨l',h'⟩:=by
 refine El (RS (ns:=ns) (a0:=.void) (hs:=hs) (B:=34::u) q ⟨rfl,by show(34::u).length≤1000000;rw[AQ];lia⟩ (by show _≤1000000;lia)) fun hs2 J ri ei X R e1=>?_
 refine El (PA (ns:=ns) (d:=10) (hs:=hs2) hp (by rw[AQ];show _≤1000000;lia) (X.2.2 nf)) fun t i k h1 rd f0 e2=>?_
 refine AR (Y3 (ns:=ns) (d:=11) f0 rfl) fun h3 f1 e3=>?_
 have hx:Yn x (Bf .ns its):=(Uw q hu (fun zz=>rfl)).ns (fun z=>nomatch z)
 refine D6 (hx) fun x1 t1 x2 t2 ex n1 n2 ev=>?_
 have hx:MV (x1++x2) (t1++t2) (0::[]):=.mk n1 n2
 rw[ev] at hx
 have ux:u=x:=by rw[(L4 q).1,AK]
 have rd1:Rd (Dv (Et ((34::u)++[0]) t i k)) (34::((x1++x2)++34::0::[])):=⟨by
  show(34::u)++[0]=_
  rw[ux,ex];simp,rd.z⟩
 refine YC (Vr (ns:=ns) (d:=5) hx rd1 f1 rfl rfl) fun σ1 h4 σ2 h5 κ e4 e5 e6 kp=>?_
 have hm:mk (HH (x1++x2) (Dv (Et ((34::u)++[0]) t i k)))=PM u x its:=by
  have e:=PN (t:=t) (i:=i) (k:=k) q hb
  have el:x.length+1=(x1++x2).length+2:=by rw[ex,AF (as:=x1++x2)];rfl
  rw[el] at e
  exact e
 unfold Id at e4
 rw[hm] at e4
 have hw:=ZF q
 have hxl:x.length≤231:=by rw[←ux];exact hz
 refine AR (Vn (ns:=ns) (a0:=scO σ2) (R.kept kp) (by show _<1000000;exact Bk hw (by lia))) fun h6 X6 e7=>?_
 rw[←(SH its).1] at e7
 have hc:((1+x.length:Nat):Int) - (hdN x 1 0:Int)=((1+x.length - hdN x 1 0:Nat):Int):=(Int.ofNat_sub (OK x (p:=1) (hd:=0) (BX _))).symm
 rw[hc] at e1
 have tq:IF (.tup [.int ((1+x.length:Nat):Int),.int ((AT its).2.length:Int),.int ((1+x.length - hdN x 1 0:Nat):Int)]) (.tup [.int ((1+x.length:Nat):Int),.int ((AT its).2.length:Int),.int ((1+x.length - hdN x 1 0:Nat):Int)])=some true:=P7 _ _ _
 have v1:decide ((⟨(Bf .ns its).toArray⟩:Str)=⟨(Bf .ns its).toArray⟩)=true:=decide_eq_true rfl
 refine⟨I3 f P p (sV (34::u)) (.obj (ri+1)) (.obj (ei+1)) (.bool true) (.tup [.int ((1+x.length:Nat):Int),.int ((AT its).2.length:Int),.int ((1+x.length - hdN x 1 0:Nat):Int)]) (.obj 0) (Jm ⟨(Bf .ns its).toArray⟩ (mk (Dv (Et ((34::u)++[0]) t i k))) (PM u x its) (A8 "\"")) .undef (PM u x its) (OX κ),scO σ2::h6,?_⟩
 exact CR.by [.c (V.tup [V.obj (ri+1),V.obj (ei+1),V.bool true,V.tup [V.int (↑(1+A9 x):Int),V.int (↑(A9 (Prod.snd (AT its))):Int),V.int (↑(1+A9 x - hdN x 1 0):Int)]]) (O.void::hs2),.a 4,.c (V.none) (scO (Et (34::u++[0]) t i k)::h1),.a 1,.c (GV (34::u++[0])) (scO (Dv (Et (34::u++[0]) t i k))::h3),.a 1,.c (Jm (Str.mk (AE (Bf Yp.ns its))) (mk (Dv (Et (34::u++[0]) t i k))) (PM u x its) (A8 "\"")) (scO σ1::h4),.a 1,.c (OX κ) (scO σ2::h5),.a 3,.c (V.none) (scO σ2::h5),.a 4,.c (sV (Bf Yp.ns its)) (scO σ2::h6),.t,.v .bool (true),.a 2] (an e1 (an e2 (an e3 (an e4 (an e5 (an e6 (an e7 (an v1 (an tq trivial))))))))) (by kernel_rfl)
end
theorem ZU {ns:List Int}(h63:ns.length≤63):∃h',AN (S ns) 16 47 [.sta 9] [] [.void] (.bool true) h':=by
 refine BJ (Xw h63) fun f p hf hp e1=>?_
 have hl:(psN ns).length≤22:=by unfold psN;rw[AH];exact O0 h63
 have hin:=ZI (ns:=ns)
 refine AR (Wx (ns:=ns) (L1:=Ky ns) hf hp hl fun x hx=>PT x (hin x hx)) fun hs nf e2=>?_
 have hu:=Wv (p:=p) hin hf
 have hq:=Yy (p:=p) hin hf
 have hz:=Yz (p:=p) hl hin hf
 generalize uN (psN ns) f p=u at e2 hu hq hz
 have h0:∀c∈u,c≠0∧c<1114112:=fun c hc=>⟨(Ig (hu c hc)).2.1,(Ig (hu c hc)).2.2.1⟩
 have hb:∀c∈u,c≠65279:=fun c hc=>(Ig (hu c hc)).2.2.2
 have hP:∀c∈34::u,JZ c:=fun c hc=>(AZ.mp hc).elim (fun e=>by rw[e];exact .inr (.inl (by decide))) fun h=>(Ig (hu c h)).1
 refine HB (ZG u.length u (Ak _) hq false) fun its x cl r q hr=>?_
 have e3:∃l' h',CR (S ns) 16 (RZ 4 8) ⟨I3 (.int (f:Int)) (.obj 2) (.int (p:Int)) (sV (34::u)) .undef .undef .undef .undef .undef .undef .undef .undef .undef,.void::hs⟩ (.ret (.bool true)) ⟨l',h'⟩:=by
  rcases cl with _|_
  ·exact Zt q h0 hb hP hz nf
  ·
   cases hr rfl
   exact Xz q h0 hb hP hz nf
 refine JU (e3) fun l' h' e3=>?_
 exact⟨h',AN.rows (fun k e=>by kernel_rfl) (e1.app (e2.app e3))⟩
set_option maxHeartbeats 8000000
set_option Elab.async true
theorem c9:True:=trivial
namespace t01
def tw10001606197454680440:=c9
def tw10008987709444164015:=c9
def tw10018815399229734310:=c9
def tw10023688238687093252:=c9
def tw10025291876189216889:=c9
def tw10043005421950287850:=c9
def tw10047824166821010251:=c9
def tw10077577941310234375:=c9
def tw10082473429545172869:=c9
def tw10111622286370859177:=c9
def tw1012448099608777837:=c9
def tw10127041314371874278:=c9
def tw10136039330076822189:=c9
def tw10139910196165987649:=c9
def tw10152514262517829199:=c9
def tw10155156337468925267:=c9
def tw10162672463188836851:=c9
def tw1017561207124211896:=c9
def tw10182912964793563363:=c9
def tw10184511660560816679:=c9
def tw10187286538825728480:=c9
def tw10192638121357547999:=c9
def tw10193811736127689712:=c9
def tw10206560223754179970:=c9
def tw10224382739674433570:=c9
def tw10235685956890781509:=c9
def tw10237558818788938217:=c9
def tw10262449524213625693:=c9
def tw1028126334036212005:=c9
def tw10343770644445505067:=c9
def tw10355004649943398526:=c9
def tw10373564502368430837:=c9
def tw10386291601727232859:=c9
def tw10393548268569913053:=c9
def tw10393758188681830149:=c9
def tw10419691299727597956:=c9
def tw1042422616435332783:=c9
def tw10456814305676655290:=c9
def tw10474375805316573791:=c9
def tw10484120170826604582:=c9
def tw10487747017146023093:=c9
def tw10487868403868260842:=c9
def tw1051298233240336724:=c9
def tw10514069003777509284:=c9
def tw1057141780783897422:=c9
def tw10590268416705001168:=c9
def tw10597189280196131555:=c9
def tw1060513356165146148:=c9
def tw10624374350968159258:=c9
def tw10625134742247615091:=c9
def tw10655182314910434964:=c9
def tw10671388226287777744:=c9
def tw10697131000300272492:=c9
def tw10697809106441072166:=c9
def tw10716963054780059215:=c9
def tw10721673248078455231:=c9
def tw10731612307565213426:=c9
def tw10736879956783125243:=c9
def tw10748228322259105276:=c9
def tw10762043315959399972:=c9
def tw10766594160872418270:=c9
def tw10798597597382808612:=c9
def tw10799051673105963644:=c9
def tw10804288224875643278:=c9
def tw1080620302227364976:=c9
def tw10839756018837904659:=c9
def tw10841606518147129301:=c9
def tw10868304870853110370:=c9
def tw10879701897664298506:=c9
def tw1088767531420908675:=c9
def tw10914813461479817117:=c9
def tw10925367964420318111:=c9
def tw10944023853422880236:=c9
def tw1095265644187423663:=c9
def tw10958162046373274252:=c9
def tw10960036092631579143:=c9
def tw10961110997243423121:=c9
def tw1096989784222100530:=c9
def tw1098057972678330726:=c9
def tw10982646237731865345:=c9
def tw11002093328247289713:=c9
def tw11002701096085045042:=c9
def tw11030380453058325181:=c9
def tw11038163618504997768:=c9
def tw11048485486410330724:=c9
def tw11050291468744132394:=c9
def tw11050892860053528064:=c9
def tw11054574516979282942:=c9
def tw11061291701857200199:=c9
def tw11065045428845799963:=c9
def tw11078538277383865157:=c9
def tw11080792230683232477:=c9
def tw11088154793928230490:=c9
def tw11095853961674208422:=c9
def tw11102120400489037216:=c9
def tw11112013104974096801:=c9
def tw1111384862894056706:=c9
def tw11115329624871988503:=c9
def tw11118499553562866044:=c9
def tw11131003226499419434:=c9
def tw11131726765938398652:=c9
def tw11145107610869787552:=c9
def tw11159500451908649518:=c9
def tw11160936636930295627:=c9
def tw11163775259996324424:=c9
def tw11186908389145081385:=c9
def tw11200624528957478676:=c9
def tw11228779416055414806:=c9
def tw11230288388746903491:=c9
def tw11235579797239843237:=c9
def tw11238992187997603099:=c9
def tw11252448154653428392:=c9
def tw11254057625305549168:=c9
def tw11262515261509896487:=c9
def tw11303420731802781584:=c9
def tw11306117557194159774:=c9
def tw11318471188518190153:=c9
def tw11344122003026779641:=c9
def tw1135576386074332521:=c9
def tw11358500348693101709:=c9
def tw11371706021537177297:=c9
def tw1137516686394259115:=c9
def tw11400388052513356568:=c9
def tw11408031951407776886:=c9
def tw11419676574864819434:=c9
def tw11426813421139304318:=c9
def tw11443747858765939381:=c9
def tw11456003944210429881:=c9
def tw11457865887854484263:=c9
def tw11474854290750521070:=c9
def tw11477484344830905563:=c9
def tw1148988812858542626:=c9
def tw11494442536449188642:=c9
def tw11535401729815947405:=c9
def tw115405374100888966:=c9
def tw11544809438842445226:=c9
def tw1154571387225843138:=c9
def tw11552989133464112290:=c9
def tw11554477809657839638:=c9
def tw11562994588455348668:=c9
def tw11600808573008619736:=c9
def tw11612566239904434120:=c9
def tw11613023531740200286:=c9
def tw11616326052178833108:=c9
def tw11653187204895670424:=c9
def tw11664130312320451615:=c9
def tw11668502244157447547:=c9
def tw11671509509324770633:=c9
def tw11675973850512260157:=c9
def tw1168799664293677428:=c9
def tw11717798711497702640:=c9
def tw11718425035005265343:=c9
def tw11720994211169304482:=c9
def tw11726572523595800746:=c9
def tw11733342161727147651:=c9
def tw11734960391953327940:=c9
def tw11741090382229541548:=c9
def tw11765436077162984926:=c9
def tw1177710738143148860:=c9
def tw11782986540477120420:=c9
def tw11785896963291525129:=c9
def tw11793934088460721932:=c9
def tw11799875417110722604:=c9
def tw11803142732314386291:=c9
def tw11806451067751538656:=c9
def tw11823085251968541725:=c9
def tw11823125971094030838:=c9
def tw11831291382520038180:=c9
def tw11832076292303950248:=c9
def tw11837586868928883742:=c9
def tw11842126724090485385:=c9
def tw1185480168213901496:=c9
def tw11865393635651012841:=c9
def tw11865427103693653419:=c9
def tw11879172664703668401:=c9
def tw11886297994393800741:=c9
def tw11890529571571855193:=c9
def tw11890867957897212531:=c9
def tw11894993801933256376:=c9
def tw11902687286981900278:=c9
def tw1190662378277852054:=c9
def tw11914877864091094332:=c9
def tw11919922387603907585:=c9
def tw11924444591757769377:=c9
def tw11930895900016670035:=c9
def tw11943930464745362044:=c9
def tw11951484789975365670:=c9
def tw11960953118973605857:=c9
def tw11963571749450491675:=c9
def tw11967692899732664172:=c9
def tw11970915578184822997:=c9
def tw1198715816280949101:=c9
def tw11992255186346709233:=c9
def tw119931448902621853:=c9
def tw11994074407729720249:=c9
def tw12009268464288325428:=c9
def tw12012415032251356380:=c9
def tw12015938543653970887:=c9
def tw12042795464427318303:=c9
def tw1205343922450018146:=c9
def tw12067383916400286332:=c9
def tw12106680982344574251:=c9
def tw1211349872226779260:=c9
def tw12130950341596418790:=c9
def tw12150026256830588596:=c9
def tw12152081128930588776:=c9
def tw12163499163589791137:=c9
def tw12169430121361335371:=c9
def tw12171323429297482070:=c9
def tw12174143792113115380:=c9
def tw12218035975727362544:=c9
def tw12224642437312987120:=c9
def tw12226919397050991962:=c9
def tw12235655239248774060:=c9
def tw12239046693600194512:=c9
def tw12244703127251392204:=c9
def tw12253526313408150766:=c9
def tw12255925289451357252:=c9
def tw12279658285716085133:=c9
def tw1229678680312976597:=c9
def tw12347134399467444448:=c9
def tw12354590914061336066:=c9
def tw12364154153004588356:=c9
def tw12385072985973962936:=c9
def tw12391169412550735058:=c9
def tw12404263672682469954:=c9
def tw12407499997307675150:=c9
def tw12412753941148703398:=c9
def tw12431810292983622108:=c9
def tw12446910163327246332:=c9
def tw12454697495313643497:=c9
def tw12456122890555538769:=c9
def tw12476207441748781486:=c9
def tw12477807320196419567:=c9
def tw12481173130550324581:=c9
def tw12509413583904867769:=c9
def tw1251422855469966284:=c9
def tw12529278117900436513:=c9
def tw12543432325888744589:=c9
def tw12546888505392499584:=c9
def tw12549320295764897859:=c9
def tw12551325463494531648:=c9
def tw12555844893200371557:=c9
def tw12568767536252665987:=c9
def tw12572556191977495954:=c9
def tw12573440872789773601:=c9
def tw12577872976926831282:=c9
def tw1260250833412771112:=c9
def tw12620076717505414299:=c9
def tw12620280876198043097:=c9
def tw12635467650426608942:=c9
def tw12638956656428034664:=c9
def tw12660416915962324064:=c9
def tw12663765954005661921:=c9
def tw12676872159555325023:=c9
def tw12678583113028928626:=c9
def tw12684695357470474155:=c9
def tw12693673662579893120:=c9
def tw12697434634418273950:=c9
def tw12699544179445901887:=c9
def tw12701326454253002233:=c9
def tw12704711079954017290:=c9
def tw12712820772581759847:=c9
def tw12720630656977164210:=c9
def tw12736283881929842073:=c9
def tw12743914747316106696:=c9
def tw1274431559243304204:=c9
def tw12764829884923604868:=c9
def tw12790564033724407284:=c9
def tw12807066281362658507:=c9
def tw12812895654272667206:=c9
def tw12830182595218401313:=c9
def tw1288097397680474467:=c9
def tw12881116676995517549:=c9
def tw12943396121833300064:=c9
def tw1294765759306723225:=c9
def tw1298682523387846012:=c9
def tw1298781422792859177:=c9
def tw13007029367259364685:=c9
def tw13022594669412555093:=c9
def tw13068378031379716147:=c9
def tw13070774159447384626:=c9
def tw13079571353434778214:=c9
def tw13086817688871636348:=c9
def tw1310211621410200196:=c9
def tw13114370141272398506:=c9
def tw131162874158167948:=c9
def tw13140349461673827652:=c9
def tw13161660487713070767:=c9
def tw13167211361965503511:=c9
def tw13174487296927412955:=c9
def tw1317633039230930704:=c9
def tw13209889845422788447:=c9
def tw13245591441213683996:=c9
def tw1325111414583152364:=c9
def tw1325528731425075302:=c9
def tw13258536656072799702:=c9
def tw1325902603999065662:=c9
def tw13277782175472888801:=c9
def tw13293125425353808712:=c9
def tw13296127898301482595:=c9
def tw13300227346598659534:=c9
def tw13306638635978353899:=c9
def tw13311075470049203858:=c9
def tw13319516360606309149:=c9
def tw13329036828062705984:=c9
def tw13340800424933570698:=c9
def tw13361829994783713926:=c9
def tw13363822831165586482:=c9
def tw13370553989927744478:=c9
def tw13399811614983372391:=c9
def tw13420087812544031539:=c9
def tw13426145655491312923:=c9
def tw13426875921470170498:=c9
def tw13430567239294630080:=c9
def tw13431749962424485232:=c9
def tw13445323525413366609:=c9
def tw134469449296383094:=c9
def tw13451012985653779360:=c9
def tw13467482251426216342:=c9
def tw13478231573475613904:=c9
def tw13487839752088569754:=c9
def tw1349340991091672145:=c9
def tw13509279493723449936:=c9
def tw13516414668209769378:=c9
def tw13540824004262853817:=c9
def tw13544239591673341910:=c9
def tw13545697016918639849:=c9
def tw13556684066890038094:=c9
def tw13562904016034866348:=c9
def tw13568550621759609689:=c9
def tw13569871464910859105:=c9
def tw13571018962381718189:=c9
def tw13573385532632951987:=c9
def tw13592451791480665141:=c9
def tw13595927650664699018:=c9
def tw13600061740167076572:=c9
def tw13601770603049338525:=c9
def tw13602708967337368139:=c9
def tw13604976412864109439:=c9
def tw13621534256347301632:=c9
def tw13648631557051548577:=c9
def tw13650142981590037012:=c9
def tw1368996140660132943:=c9
def tw13702770770898576443:=c9
def tw13726165564706853974:=c9
def tw1373261151292031888:=c9
def tw13737388122442333494:=c9
def tw13744720591039514831:=c9
def tw13750444421681771869:=c9
def tw13756296143718503771:=c9
def tw13776864874572495155:=c9
def tw13788319475657066886:=c9
def tw1382677914970797272:=c9
def tw13830323437307599892:=c9
def tw1383875147078588151:=c9
def tw13839629177977435669:=c9
def tw13841081771396294237:=c9
def tw13853482063913424352:=c9
def tw1387681151842918215:=c9
def tw13880519951586586123:=c9
def tw13881873766392346941:=c9
def tw13884839611403356360:=c9
def tw13918852935687707387:=c9
def tw13926328611851848670:=c9
def tw13939525181841115727:=c9
def tw13989415190614016239:=c9
def tw13996009035717419570:=c9
def tw14015224604381251912:=c9
def tw14024303840654331555:=c9
def tw14027723720656943075:=c9
def tw14057096408422548169:=c9
def tw14059683448090552054:=c9
def tw14070812175352195168:=c9
def tw14070841516215553760:=c9
def tw14076338125335805448:=c9
def tw14079053976389064308:=c9
def tw1408398529907061475:=c9
def tw14089870094024670269:=c9
def tw1409771404857767670:=c9
def tw1411748908803096291:=c9
def tw14122393082478303066:=c9
def tw14131257830834105058:=c9
def tw14143598835407116916:=c9
def tw14149900607438707044:=c9
def tw14183329036449396543:=c9
def tw14189779767333575985:=c9
def tw14205004488833264069:=c9
def tw14209886195660340794:=c9
def tw14210145183422069410:=c9
def tw14213268415616806093:=c9
def tw14237701909431550346:=c9
def tw142492892583973833:=c9
def tw14274695798594205293:=c9
def tw14282162918910710620:=c9
def tw14287995234625255560:=c9
def tw14289271778824577062:=c9
def tw14292501513162299735:=c9
def tw14294200694428123428:=c9
def tw14306985395328818734:=c9
def tw14307911108234679734:=c9
def tw14314959396956692822:=c9
def tw14338427062848732208:=c9
def tw14344183451606103120:=c9
def tw14347920828682510285:=c9
def tw14350952247183261899:=c9
def tw14377478268567713250:=c9
def tw14410795396094095649:=c9
def tw14414704182471135645:=c9
def tw14418223469350361489:=c9
def tw14428213472267546489:=c9
def tw14443297564926096394:=c9
def tw14444179650123702220:=c9
def tw14444681222035664695:=c9
def tw14459309720204914472:=c9
def tw1446141444779604039:=c9
def tw14461484916249909073:=c9
def tw14492268597911577097:=c9
def tw14507027159823592013:=c9
def tw14514366606407423228:=c9
def tw1451822759423561802:=c9
def tw14549016924996279783:=c9
def tw14549817893729921059:=c9
def tw14555868021913718992:=c9
def tw14573685873336402028:=c9
def tw14574410599678878443:=c9
def tw14582522020861637176:=c9
def tw14589902031671556497:=c9
def tw14590180778852870932:=c9
def tw14594695561366938729:=c9
def tw14611634118819753834:=c9
def tw14628582034608935482:=c9
def tw14638791423484131905:=c9
def tw14659731198801582342:=c9
def tw14661477519714621707:=c9
def tw14693143862658472241:=c9
def tw14705447988777557621:=c9
def tw14706821887325500009:=c9
def tw1470856613929201364:=c9
def tw14728876727820874431:=c9
def tw14741688852170302396:=c9
def tw14745144013052204503:=c9
def tw14760812445430816802:=c9
def tw14772032741770686206:=c9
def tw14780448193456851097:=c9
def tw14784943931531789424:=c9
def tw14787495161149590316:=c9
def tw14804080229689750407:=c9
def tw14805414861558462796:=c9
def tw14811889678085582873:=c9
def tw14812152897320173924:=c9
def tw14829904461669151705:=c9
def tw14832568655173747868:=c9
def tw14839701051769095498:=c9
def tw14841029371059918686:=c9
def tw14844388017169754506:=c9
def tw14882090909865359185:=c9
def tw14895696112796298901:=c9
def tw14898414175302514605:=c9
def tw14914831287655250091:=c9
def tw14915969984890129840:=c9
def tw14929913916132574834:=c9
def tw1493887451358636109:=c9
def tw14939552718544106352:=c9
def tw14948112344284408342:=c9
def tw14950468160000366090:=c9
def tw14971044523301694500:=c9
def tw14972358595201369558:=c9
def tw14973044262080211927:=c9
def tw15003437268138457429:=c9
def tw1500480687963191919:=c9
def tw1502297909510054676:=c9
def tw15038709449473103266:=c9
def tw15043770825667345333:=c9
def tw15054508417824841804:=c9
def tw15060460419936804596:=c9
def tw15063461069208501332:=c9
def tw15064360665462114570:=c9
def tw15086132868718713719:=c9
def tw15090238632797626735:=c9
def tw15100187115439768194:=c9
def tw15103098318056041914:=c9
def tw15112788118028185252:=c9
def tw15113842547071558036:=c9
def tw15115772802594884664:=c9
def tw15136804110356275876:=c9
def tw15149800214475429804:=c9
def tw15173518399335704501:=c9
def tw15192495091241340775:=c9
def tw1520398838959390078:=c9
def tw15204206419597103967:=c9
def tw15206749101448473437:=c9
def tw15208196054527977408:=c9
def tw15225521579404783685:=c9
def tw15234286823501471522:=c9
def tw15249404892363459176:=c9
def tw15254996208161326958:=c9
def tw1525711111273011348:=c9
def tw15259527775512492099:=c9
def tw1529519101016738776:=c9
def tw15298955437763212254:=c9
def tw15313747595637133135:=c9
def tw15320655581780542217:=c9
def tw15329292111403947946:=c9
def tw15336271623626997943:=c9
def tw15336660911991256116:=c9
def tw15342430922351581879:=c9
def tw15363671492959963792:=c9
def tw15366822887371652921:=c9
def tw1536739384875769499:=c9
def tw1537638971366970164:=c9
def tw15390762143164923052:=c9
def tw1541130464058915522:=c9
def tw15416207276087728278:=c9
def tw15418846494029359508:=c9
def tw15425970744775661984:=c9
def tw15433748080342851818:=c9
def tw1546572504421749553:=c9
def tw15466904649779391846:=c9
def tw15483252025957551781:=c9
def tw15499495019920562102:=c9
def tw15517478410481071057:=c9
def tw15521810999319382821:=c9
def tw15530688902666662971:=c9
def tw15531104450115422526:=c9
def tw15532052926924972363:=c9
def tw15546953919605965915:=c9
def tw15572109205669555406:=c9
def tw15573324105136919487:=c9
def tw15575113890679310812:=c9
def tw15576700500302667854:=c9
def tw15588538227087489457:=c9
def tw15588916969314203445:=c9
def tw15594074082260500875:=c9
def tw15601499129834467362:=c9
def tw15602310853990028550:=c9
def tw15620432049030879725:=c9
def tw15624625672483937751:=c9
def tw15627028567757357623:=c9
def tw15628717543558339407:=c9
def tw15644785969227756959:=c9
def tw15644978560870604602:=c9
def tw15650921649778039863:=c9
def tw15662315568514212315:=c9
def tw15665059014169001135:=c9
def tw15676213718874033254:=c9
def tw1570383863020999750:=c9
def tw15704440179770220539:=c9
def tw15711882717967397171:=c9
def tw15715585350974763429:=c9
def tw15741788257456784455:=c9
def tw1575140915922288732:=c9
def tw1575243280001571632:=c9
def tw15757089731130228956:=c9
def tw1577262972411321203:=c9
def tw15782444051703628381:=c9
def tw15786315403756331025:=c9
def tw15796846394420924936:=c9
def tw15819831279873139005:=c9
def tw1582865351369764797:=c9
def tw15829206576991436802:=c9
def tw15878305943622452290:=c9
def tw15886172380088209616:=c9
def tw15903991551840302676:=c9
def tw15918261690840316987:=c9
def tw15952474520721981210:=c9
def tw15990387236191742456:=c9
def tw15996511555087973699:=c9
def tw16005984356214269107:=c9
def tw16016935651143525919:=c9
def tw16048834447117092475:=c9
def tw16055887015170392881:=c9
def tw16072873920731555333:=c9
def tw16098431265739888042:=c9
def tw16129053721674456134:=c9
def tw16129887805352594552:=c9
def tw16146106973078728402:=c9
def tw16158819242491088354:=c9
def tw1615952378850751466:=c9
def tw16175118785292101475:=c9
def tw16205062550363669761:=c9
def tw16205512870100401221:=c9
def tw16209846624692630809:=c9
def tw16217003557180108330:=c9
def tw16229752848677946344:=c9
def tw1623293062396123477:=c9
def tw16244913631607247331:=c9
def tw16244990349065003813:=c9
def tw16250080445089362935:=c9
def tw16252421163142850184:=c9
def tw16270384293392796393:=c9
def tw16284621026705419910:=c9
def tw16284951823292125790:=c9
def tw16299047695130424490:=c9
def tw16300643360888141445:=c9
def tw16304854319221285645:=c9
def tw16317348256042149261:=c9
def tw16334837913511882188:=c9
def tw16349445104081812954:=c9
def tw16352185433212527376:=c9
def tw16363359545987865282:=c9
def tw16372086237451394505:=c9
def tw16375188204242337007:=c9
def tw16398210079719564552:=c9
def tw16399205313367915068:=c9
def tw16422944451122035445:=c9
def tw16427410518904441747:=c9
def tw16436108560786646442:=c9
def tw16444062245928142896:=c9
def tw164455353635195392:=c9
def tw16450434051874846518:=c9
def tw16453181075219169692:=c9
def tw16469673045165892127:=c9
def tw16474383249739305599:=c9
def tw16492046796500939959:=c9
def tw16497555043377345404:=c9
def tw16515396542751474716:=c9
def tw16519632604970564733:=c9
def tw16521254418340787014:=c9
def tw16529402957801084352:=c9
def tw16539168443977107974:=c9
def tw16540527621126476810:=c9
def tw16540785893508503547:=c9
def tw16557620240026062142:=c9
def tw16570178866686394091:=c9
def tw16581305301887405424:=c9
def tw16583120359447285245:=c9
def tw16589637120626610262:=c9
def tw16589929831662148568:=c9
def tw16591891767478185433:=c9
def tw16610655827209436661:=c9
def tw16625553451295742556:=c9
def tw1662854131195601063:=c9
def tw16638765884271845521:=c9
def tw16644502750072805027:=c9
def tw16662617727697469829:=c9
def tw1667404089995301977:=c9
def tw16679238605104117216:=c9
def tw16698937688469595611:=c9
def tw16699292468889343429:=c9
def tw16701162310052025284:=c9
def tw16705020782452648200:=c9
def tw16713333868619464402:=c9
def tw16732431117428410243:=c9
def tw16744514127926583142:=c9
def tw16744532382258475056:=c9
def tw16746618347307606823:=c9
def tw1675155034986660211:=c9
def tw16762961222297758314:=c9
def tw16768205096320684071:=c9
def tw16773149311944241735:=c9
def tw16789094857161762118:=c9
def tw16790201291089113543:=c9
def tw16795358944134760907:=c9
def tw16811358930001727524:=c9
def tw16831264586526937479:=c9
def tw16837829796310429772:=c9
def tw16845235296232872187:=c9
def tw16877995274995579753:=c9
def tw16883680865447862450:=c9
def tw16889603211836715680:=c9
def tw16902920771482588496:=c9
def tw16907498661196677407:=c9
def tw16941152282871147240:=c9
def tw16950129953847889656:=c9
def tw16957653421165971009:=c9
def tw16967854118355177493:=c9
def tw16974458621410917254:=c9
def tw16983675886634200366:=c9
def tw16995825498394383929:=c9
def tw17015589278009593524:=c9
def tw17026829372915757629:=c9
def tw17038130057012280677:=c9
def tw17043910873544850764:=c9
def tw17052493686147411563:=c9
def tw17053766138893236261:=c9
def tw17065683693234100032:=c9
def tw17066549934614471146:=c9
def tw17080342870889048531:=c9
def tw17084497915794338492:=c9
def tw17087015110511267812:=c9
def tw17093243775283285306:=c9
def tw17094482188416137344:=c9
def tw17102404319887150775:=c9
def tw17110159198913423447:=c9
def tw17140891304941395024:=c9
def tw1714522235471680338:=c9
def tw17148305537106606337:=c9
def tw17162464355039492459:=c9
def tw17164888343882670053:=c9
def tw17166896306990065508:=c9
def tw17178869727418098620:=c9
def tw17186975131507054332:=c9
def tw17202787661511043282:=c9
def tw1721231385738665087:=c9
def tw17251223662188733368:=c9
def tw17253181515861562367:=c9
def tw17260272262000412455:=c9
def tw17278488956490812783:=c9
def tw1728250043362396163:=c9
def tw17287720345343774261:=c9
def tw17319913819565554175:=c9
def tw17322603648708996910:=c9
def tw17323661370739017772:=c9
def tw1737724009679431230:=c9
def tw17394409383560819179:=c9
def tw1742154997012453334:=c9
def tw17421637763462953232:=c9
def tw17442234895863799573:=c9
def tw17453942661924381257:=c9
def tw17457257450425919786:=c9
def tw17465118127428360054:=c9
def tw1747478682288517312:=c9
def tw17495379467840238570:=c9
def tw17516520576139625315:=c9
def tw17524882537403133025:=c9
def tw17528260704505767664:=c9
def tw17533977701108838980:=c9
def tw17554003162810214378:=c9
def tw17560513830494589969:=c9
def tw1756396472849301590:=c9
def tw17571939621591214632:=c9
def tw17573693902807612320:=c9
def tw17581163616932496676:=c9
def tw17583186893376845890:=c9
def tw17593049156968322907:=c9
def tw17603642729348530493:=c9
def tw17609255778332045183:=c9
def tw17611411870912545455:=c9
def tw17616981143422294843:=c9
def tw17619310500038312243:=c9
def tw17622759436614244262:=c9
def tw17624409005248371815:=c9
def tw17625582575993474630:=c9
def tw1762914614270482418:=c9
def tw17640546630589404560:=c9
def tw17646651221489647773:=c9
def tw17659188471002245462:=c9
def tw17664595808271868740:=c9
def tw17667499262169596879:=c9
def tw17674532065236148332:=c9
def tw17674676387128311065:=c9
def tw17681798519816733622:=c9
def tw1770719611772404981:=c9
def tw17728871427971302297:=c9
def tw17737554243389818223:=c9
def tw17742421946758269016:=c9
def tw17745100723322570073:=c9
def tw17747288208989128249:=c9
def tw17747840807504943395:=c9
def tw17753948326243314068:=c9
def tw177588483762854752:=c9
def tw17761309408472805635:=c9
def tw1777100400080626027:=c9
def tw17805184096925666566:=c9
def tw17814645696997567376:=c9
def tw17816850458320672417:=c9
def tw17824387449755011351:=c9
def tw17831475479148679526:=c9
def tw17833039780102995742:=c9
def tw17844175178713803992:=c9
def tw17845176349106978814:=c9
def tw17845284325099878122:=c9
def tw17853373110674185250:=c9
def tw17854172931513057243:=c9
def tw17855330425014804589:=c9
def tw17858927440917347217:=c9
def tw17886918008956173709:=c9
def tw17908250217468272697:=c9
def tw1791683399439931318:=c9
def tw17928879010305572687:=c9
def tw17949887116872730870:=c9
def tw17959468089224608384:=c9
def tw17969820784010203448:=c9
def tw17971609319828173737:=c9
def tw17979629150820914577:=c9
def tw17985721300373569445:=c9
def tw17987936216294045789:=c9
def tw17991741088458462117:=c9
def tw17996073502822920363:=c9
def tw18001785305997069091:=c9
def tw18039418396763853042:=c9
def tw18041834588231708065:=c9
def tw1804432319117887540:=c9
def tw1805214725187200554:=c9
def tw18073019924383625961:=c9
def tw18074675087267214244:=c9
def tw18079828353984152548:=c9
def tw18084406225524475453:=c9
def tw18092581509509991072:=c9
def tw18124911835374978280:=c9
def tw18135137130135617013:=c9
def tw18155369320371810471:=c9
def tw18160308330829570080:=c9
def tw18160371397831204177:=c9
def tw18189815025258233306:=c9
def tw18190156781615666521:=c9
def tw18225297080629858868:=c9
def tw18225535742057492451:=c9
def tw18231823654976433469:=c9
def tw18237401366257973791:=c9
def tw18256003848474787309:=c9
def tw18256551378683129843:=c9
def tw18262480327604853069:=c9
def tw18264678234450623392:=c9
def tw18267101369519679825:=c9
def tw18283794645119024126:=c9
def tw18289796881373972531:=c9
def tw18304934716471783118:=c9
def tw18317141091886334368:=c9
def tw18328031956801522532:=c9
def tw18341229937680312538:=c9
def tw18361210597473231256:=c9
def tw18375170088964358198:=c9
def tw18382934537276665635:=c9
def tw18385387249262080958:=c9
def tw18392056449874526214:=c9
def tw18402621223280359428:=c9
def tw18413396380410014360:=c9
def tw18426766157504838221:=c9
def tw18432318915614566825:=c9
def tw18432905895846270838:=c9
def tw184335249539109216:=c9
def tw18443173754821619927:=c9
def tw184932588774757613:=c9
def tw1865176827461637080:=c9
def tw1891140200187566073:=c9
def tw1898762144385675651:=c9
def tw1921108116295965656:=c9
def tw1925049809979077853:=c9
def tw1927461748954501502:=c9
def tw1955706665181161465:=c9
def tw1965601018750794919:=c9
def tw1966088102790391792:=c9
def tw1966167415219385532:=c9
def tw1971202640511018915:=c9
def tw1972776066133848382:=c9
def tw1976265712339141910:=c9
def tw1993794796650652707:=c9
def tw1996153969825522661:=c9
def tw1998096506393055531:=c9
def tw2003100824126493588:=c9
def tw2010693735312695935:=c9
def tw2027270491355628868:=c9
def tw2031046933134829475:=c9
def tw2064831113854880784:=c9
def tw2070016085458597455:=c9
def tw2102450366386237091:=c9
def tw2107720578853497154:=c9
def tw2108068277106581843:=c9
def tw2121487147783975436:=c9
def tw2128194249261452274:=c9
def tw2131671022207742614:=c9
def tw2132322471518787237:=c9
def tw2138105217107703459:=c9
def tw2139719976227179093:=c9
def tw2156260804179332567:=c9
def tw2188141700585194953:=c9
def tw2197400854460995573:=c9
def tw2224562734946160480:=c9
def tw2245920957622686010:=c9
def tw2246322030557477085:=c9
def tw227056568651513598:=c9
def tw2280378068622011234:=c9
def tw2280530262388515139:=c9
def tw2320047938605772508:=c9
def tw2326701783127847742:=c9
def tw2347630225168780647:=c9
def tw237604659749585035:=c9
def tw2386242473515404264:=c9
def tw2386913342185158673:=c9
def tw2390812647360460567:=c9
def tw2393407576367871930:=c9
def tw2394693000135738897:=c9
def tw2395826906437110471:=c9
def tw2400000082821286862:=c9
def tw240191211798248066:=c9
def tw2434857157418422894:=c9
def tw243612448260651551:=c9
def tw2497026873248569428:=c9
def tw2498026391138797256:=c9
def tw2510273502527509307:=c9
def tw2517684286441934596:=c9
def tw2522410496246838138:=c9
def tw254863828563043942:=c9
def tw2555535732018448510:=c9
def tw2556297960628159572:=c9
def tw2567345027969942103:=c9
def tw2570048606165985073:=c9
def tw2584246358097743872:=c9
def tw2591358226950478672:=c9
def tw2595203312313528461:=c9
def tw2596324353205249887:=c9
def tw2597833909173211831:=c9
def tw2641690849809922513:=c9
def tw2658802506007295236:=c9
def tw2665610378792557432:=c9
def tw2674047994926926832:=c9
def tw2674371677885606736:=c9
def tw2681078321375671332:=c9
def tw2710667498263317404:=c9
def tw2712453110724855486:=c9
def tw2720391850946383229:=c9
def tw27501188118090349:=c9
def tw2765201237745422411:=c9
def tw2782032151114016568:=c9
def tw2786163309267177856:=c9
def tw2800653919961512116:=c9
def tw2827009666006711729:=c9
def tw2833127750253897341:=c9
def tw2835777093605706889:=c9
def tw2855396675236573144:=c9
def tw2856578501120771668:=c9
def tw2859825997655960645:=c9
def tw288411446725209370:=c9
def tw2894302013791933837:=c9
def tw2895500851015302085:=c9
def tw2898618060466520602:=c9
def tw2907601058432245643:=c9
def tw2917373463683632645:=c9
def tw2940368934937693893:=c9
def tw2950829681623016513:=c9
def tw2954183359469799918:=c9
def tw2962037924508980218:=c9
def tw296835343965549007:=c9
def tw2970352161117107535:=c9
def tw2974681500366735942:=c9
def tw2981818799848964934:=c9
def tw30043697471904192:=c9
def tw3009986067728294939:=c9
def tw3012822233422108893:=c9
def tw3018612015393946296:=c9
def tw3038786582906097699:=c9
def tw3051604394402397484:=c9
def tw3055890762302815891:=c9
def tw3059063591068659910:=c9
def tw3072996984928978205:=c9
def tw3101620207387117901:=c9
def tw3102425127208655535:=c9
def tw3109866810378260819:=c9
def tw3111220837799428766:=c9
def tw3114404119069400572:=c9
def tw3119451784588165660:=c9
def tw3120732183517276074:=c9
def tw3138847876004708197:=c9
def tw3161389157557647439:=c9
def tw3165002671314599179:=c9
def tw3168410682879768073:=c9
def tw3208517563033918536:=c9
def tw3226574589399522018:=c9
def tw3229010751391578542:=c9
def tw3242084991110096582:=c9
def tw324831436394303144:=c9
def tw3269382018393285824:=c9
def tw328022641495030506:=c9
def tw32960925990957157:=c9
def tw3314925323414674983:=c9
def tw3316837213010898784:=c9
def tw3343538018228436509:=c9
def tw3343852420791751870:=c9
def tw3361469363566396101:=c9
def tw3361479873876744706:=c9
def tw3364343862732977550:=c9
def tw3386150268455352047:=c9
def tw3386242558780953355:=c9
def tw3405168626409146476:=c9
def tw3412703743100262890:=c9
def tw3426512433481254899:=c9
def tw3441371717738617923:=c9
def tw3450180489368057315:=c9
def tw3469078556390533116:=c9
def tw3474451951904002516:=c9
def tw3492292915842591178:=c9
def tw3504042381570346830:=c9
def tw3506698620604839449:=c9
def tw3521295222477305567:=c9
def tw3527536243978384893:=c9
def tw3528992447294965855:=c9
def tw3538877387779836910:=c9
def tw3566171959746927931:=c9
def tw3569123512148380586:=c9
def tw3584204443041165857:=c9
def tw3584576454344860395:=c9
def tw362201405803814653:=c9
def tw3624284720376024599:=c9
def tw3626349163072660349:=c9
def tw3641334205340657844:=c9
def tw3665850524923762331:=c9
def tw3679724201397713088:=c9
def tw3692837877667336224:=c9
def tw3707974661480529883:=c9
def tw3723614554138476015:=c9
def tw3738906481626253875:=c9
def tw3739522777798063403:=c9
def tw3742528440545598017:=c9
def tw3757051028831638705:=c9
def tw3767045280291966868:=c9
def tw3782126255156713569:=c9
def tw3782444926192327951:=c9
def tw3788655512286236534:=c9
def tw3795272517436482291:=c9
def tw3806183599787244329:=c9
def tw3814052537449193715:=c9
def tw3815085101014277209:=c9
def tw3816927155844961261:=c9
def tw3854395501839492337:=c9
def tw3865167809917599441:=c9
def tw3878475766419725726:=c9
def tw3879269461325432411:=c9
def tw393840206199070447:=c9
def tw3941414916473114969:=c9
def tw3948380373196031798:=c9
def tw3957232749451726032:=c9
def tw3975995271425075885:=c9
def tw3977518577625788698:=c9
def tw3986723630411496450:=c9
def tw3989561188768437948:=c9
def tw3996389482385240237:=c9
def tw4016270402722961776:=c9
def tw402603584587116770:=c9
def tw4030682193353980960:=c9
def tw4044395899643456163:=c9
def tw4082218028382988405:=c9
def tw4087006370676675352:=c9
def tw4087903114823451767:=c9
def tw4095679860604820314:=c9
def tw4101186242197398182:=c9
def tw4109531381599577738:=c9
def tw4112417234427722495:=c9
def tw412934706734466977:=c9
def tw4133997626522195245:=c9
def tw414058679581652072:=c9
def tw4146223399862535186:=c9
def tw4177089756032907306:=c9
def tw418688220325550573:=c9
def tw4191339131996062022:=c9
def tw4202855384822730438:=c9
def tw4203656241730731640:=c9
def tw4217047963589576187:=c9
def tw4224948897744010913:=c9
def tw4238172946542422006:=c9
def tw4239131937797524108:=c9
def tw4245939356018990123:=c9
def tw4254321508756358578:=c9
def tw4262414968607061044:=c9
def tw4270536937898327625:=c9
def tw4274729436648220185:=c9
def tw4277065375679850428:=c9
def tw4282502347942754922:=c9
def tw4304207438319273701:=c9
def tw431911784931853128:=c9
def tw4331364043721962912:=c9
def tw4343232776681223225:=c9
def tw4347042054980994361:=c9
def tw4347515284827034241:=c9
def tw4349660635730993847:=c9
def tw4376867691769077908:=c9
def tw4411297590592982639:=c9
def tw4425021606386080399:=c9
def tw4437012192241532472:=c9
def tw4439223480611021599:=c9
def tw4447168000489205781:=c9
def tw4448638022824296448:=c9
def tw4454634595744265287:=c9
def tw4465471369900580281:=c9
def tw4484053889912620612:=c9
def tw4484240199850830218:=c9
def tw4485027293228137459:=c9
def tw4490539974250829771:=c9
def tw4491424993089908993:=c9
def tw4491546302419369544:=c9
def tw4493848762670217198:=c9
def tw4513567786063244637:=c9
def tw4529739642062148568:=c9
def tw4532185947474378841:=c9
def tw4533631104182184004:=c9
def tw4538976244354875863:=c9
def tw455053507245922099:=c9
def tw4558072337929635920:=c9
def tw4590520768557168721:=c9
def tw4594784423550487379:=c9
def tw4630771667689272288:=c9
def tw4637098904559714208:=c9
def tw4662094712260621297:=c9
def tw4671011865728318525:=c9
def tw4688283854131938089:=c9
def tw4692411740291388505:=c9
def tw4714714861614270233:=c9
def tw4719206343837577649:=c9
def tw4723375360338631352:=c9
def tw4724560233961635687:=c9
def tw4734279999324778186:=c9
def tw475433494096728710:=c9
def tw4755922947074962173:=c9
def tw4782369789448545824:=c9
def tw4796745438644724460:=c9
def tw4807548703887349781:=c9
def tw4814557654347862095:=c9
def tw4832291258138821936:=c9
def tw4834682153316120435:=c9
def tw484521823913129465:=c9
def tw4855327032827933324:=c9
def tw4864726344070338318:=c9
def tw4866424107456899220:=c9
def tw4877046821640963986:=c9
def tw4883743242820830325:=c9
def tw4892649496090374900:=c9
def tw4905347464496892472:=c9
def tw4918522220356263838:=c9
def tw4940196912108148104:=c9
def tw4946499422993886439:=c9
def tw4954603393536768068:=c9
def tw495985521151687598:=c9
def tw4976512990588064649:=c9
def tw4976834326697987372:=c9
def tw4979188602093427295:=c9
def tw5004358049298443934:=c9
def tw5012705460727680227:=c9
def tw5025127485782182236:=c9
def tw5031935441126679450:=c9
def tw5032246776285711467:=c9
def tw5036814469281051419:=c9
def tw5062243458794517875:=c9
def tw5066244289619743837:=c9
def tw5066330568458349804:=c9
def tw5072488323911113320:=c9
def tw5074495757906794623:=c9
def tw5085937498816517471:=c9
def tw5093527329812571423:=c9
def tw5127264474826869705:=c9
def tw514115903521973362:=c9
def tw5141354190321104609:=c9
def tw5143697202803099397:=c9
def tw5157320935409671962:=c9
def tw5161221922012308644:=c9
def tw5168499466256356182:=c9
def tw5184176628401691266:=c9
def tw5185151667342185462:=c9
def tw5195339253618426589:=c9
def tw5213213877888118318:=c9
def tw5213866777393609116:=c9
def tw5240286630155466718:=c9
def tw529571672053632419:=c9
def tw5305600143749409853:=c9
def tw5311768528088048089:=c9
def tw5321156736392779118:=c9
def tw5322231796873694754:=c9
def tw5333306980544685474:=c9
def tw5334447385375826089:=c9
def tw5352581857412109409:=c9
def tw5358746537784083777:=c9
def tw5382552015355912060:=c9
def tw5383365231007761583:=c9
def tw5413815092914560765:=c9
def tw541415060755395528:=c9
def tw5449230243281545876:=c9
def tw54561845354488760:=c9
def tw5477117414467813357:=c9
def tw5488546422879346359:=c9
def tw5498760105212021701:=c9
def tw5505608027650920351:=c9
def tw5529128749766416366:=c9
def tw5545897655356685551:=c9
def tw5547726150628307068:=c9
def tw5572441799782274140:=c9
def tw5581012175300243302:=c9
def tw5584350095620808073:=c9
def tw560246502872223749:=c9
def tw5611025803542639569:=c9
def tw5617834399063141813:=c9
def tw5618411149151119519:=c9
def tw5626612207713458623:=c9
def tw5629572441943662719:=c9
def tw5630417808537027115:=c9
def tw5655517360989599616:=c9
def tw5657473151450729731:=c9
def tw5705156646212870167:=c9
def tw5706673766333194866:=c9
def tw5710761404565288422:=c9
def tw5750438532261797011:=c9
def tw5753473800029702171:=c9
def tw5755109123173369915:=c9
def tw5773978858783347369:=c9
def tw5810587244428311163:=c9
def tw5811011065657359631:=c9
def tw5813342416298221862:=c9
def tw5819629437797513808:=c9
def tw5822017952450376642:=c9
def tw5852381031925740263:=c9
def tw5877604462094374083:=c9
def tw5900797350238106464:=c9
def tw5904467545127288834:=c9
def tw5964323763699796901:=c9
def tw5978774964125733901:=c9
def tw6005217635114630369:=c9
def tw6006641099642128690:=c9
def tw6007568317033868960:=c9
def tw6008860810312680259:=c9
def tw6027917419904736387:=c9
def tw603433915745861744:=c9
def tw608908322097167125:=c9
def tw6133092895995721436:=c9
def tw6186535320782862713:=c9
def tw6194401471489566535:=c9
def tw6205668899810163038:=c9
def tw6221327476519403451:=c9
def tw6247708987999435081:=c9
def tw6254891913879589289:=c9
def tw6256270240723774116:=c9
def tw6263414778349409230:=c9
def tw6265862175175391061:=c9
def tw628499919578695237:=c9
def tw62920041025498713:=c9
def tw6310124798480717985:=c9
def tw6349349144562044528:=c9
def tw6360726454588607627:=c9
def tw6366053712301548511:=c9
def tw6417745289295153721:=c9
def tw6434306924400574889:=c9
def tw6439070931178281564:=c9
def tw6463693377934756666:=c9
def tw6464945141455812689:=c9
def tw6475606801590998457:=c9
def tw6496904315749211875:=c9
def tw6501522373293932151:=c9
def tw6502963717573107433:=c9
def tw6506752042077746732:=c9
def tw6509181395832100923:=c9
def tw6513755262689981711:=c9
def tw6521793944817803765:=c9
def tw6528719349751575439:=c9
def tw653560253271753821:=c9
def tw6537257513960759166:=c9
def tw6538388963423533496:=c9
def tw6548288746754553673:=c9
def tw6561480290660726795:=c9
def tw6568464101321322122:=c9
def tw6576624468520633202:=c9
def tw6588370917202075289:=c9
def tw6588889877055617582:=c9
def tw660049541176285746:=c9
def tw6600742594132222809:=c9
def tw6613282361930365833:=c9
def tw6614996242438369316:=c9
def tw6618605663554655242:=c9
def tw6642612337300616107:=c9
def tw6646571063166488888:=c9
def tw6647349354178626724:=c9
def tw6651761414856921901:=c9
def tw66547160560963276:=c9
def tw6665746842857084742:=c9
def tw6670660779341977174:=c9
def tw6673015873156666686:=c9
def tw6676426569348081165:=c9
def tw6676816638824869935:=c9
def tw6680602522609512434:=c9
def tw6681798964710381246:=c9
def tw6684194360595915101:=c9
def tw6693499111542294827:=c9
def tw6700987762241684178:=c9
def tw6716400431464439965:=c9
def tw6717501659876829077:=c9
def tw6722905811907579357:=c9
def tw673121315669477968:=c9
def tw6732600600671040544:=c9
def tw6747893874625641263:=c9
def tw67531934339191972:=c9
def tw6765907526301656436:=c9
def tw6802431666199446292:=c9
def tw6809036883224362791:=c9
def tw6813422422131708626:=c9
def tw6815901893881371450:=c9
def tw6847586596603684653:=c9
def tw6858467871657924443:=c9
def tw6861298946733093527:=c9
def tw6887751492238830373:=c9
def tw6910447118817904170:=c9
def tw6918067622080340921:=c9
def tw6919319367107147489:=c9
def tw6937834465877317035:=c9
def tw694765484863444744:=c9
def tw6958243874367833414:=c9
def tw6968328095013284946:=c9
def tw6990724738971413674:=c9
def tw6999176340292235052:=c9
def tw7000579125144108628:=c9
def tw7001775779462063032:=c9
def tw7060283792271829257:=c9
def tw7090170046511929369:=c9
def tw709597958493804482:=c9
def tw7113571329032056300:=c9
def tw7114399631911933321:=c9
def tw7115580596603471758:=c9
def tw714371156639907228:=c9
def tw7167214372901335331:=c9
def tw7198955066207101895:=c9
def tw7201374937842113399:=c9
def tw7207382521262322122:=c9
def tw7216285501529963234:=c9
def tw7234421863720960910:=c9
def tw7245879943769248085:=c9
def tw7252898175756867622:=c9
def tw7257363637447076549:=c9
def tw725857427249878120:=c9
def tw7265827511093257603:=c9
def tw726789533015918696:=c9
def tw7300979293838725940:=c9
def tw7306540286280329131:=c9
def tw7311165621036230185:=c9
def tw7316660445498712332:=c9
def tw7330535307359528887:=c9
def tw7339930852157133826:=c9
def tw7344182237348753920:=c9
def tw7345593102749134817:=c9
def tw7349415324008529681:=c9
def tw7349609158821278444:=c9
def tw7373730153520653043:=c9
def tw7377902245569415415:=c9
def tw7379837285868936401:=c9
def tw7386496061383681219:=c9
def tw7411650641089755510:=c9
def tw7420477222476973767:=c9
def tw7420483929557041371:=c9
def tw7423073120519013152:=c9
def tw7426256741684759199:=c9
def tw7430039606751890850:=c9
def tw7469299451848928296:=c9
def tw7477533837348963632:=c9
def tw7546290831130999232:=c9
def tw7546692309597912925:=c9
def tw7589367851918371225:=c9
def tw7591688262537657627:=c9
def tw7593752437395520865:=c9
def tw759847183263078505:=c9
def tw760641778651327794:=c9
def tw7616846497727494152:=c9
def tw762723067575650450:=c9
def tw763637327883895530:=c9
def tw7646600946710464805:=c9
def tw7649004368676796836:=c9
def tw7650361773249407607:=c9
def tw7651442974304974661:=c9
def tw7681090938289391824:=c9
def tw7693686924241815635:=c9
def tw7730881793162598265:=c9
def tw7735392887591642489:=c9
def tw7738633921483509434:=c9
def tw7743104154118032174:=c9
def tw7748971340701791323:=c9
def tw7761763927933688001:=c9
def tw7766105503521669052:=c9
def tw7766468424616962955:=c9
def tw7770154171970448502:=c9
def tw7782166509124185540:=c9
def tw7783338220163247143:=c9
def tw779677541187381178:=c9
def tw7809372839990167326:=c9
def tw7813399691239487412:=c9
def tw7848183370037707874:=c9
def tw7863404782294017948:=c9
def tw7883927802741082805:=c9
def tw7893394569176159404:=c9
def tw7895141245117176453:=c9
def tw7905776707143131870:=c9
def tw7908623011277025285:=c9
def tw7909705742151106578:=c9
def tw7916450563169999983:=c9
def tw7927971743996028387:=c9
def tw7938070832493444034:=c9
def tw7940826423602536584:=c9
def tw7950484097234162846:=c9
def tw7956256894146756247:=c9
def tw795841755072113930:=c9
def tw7958715033680557662:=c9
def tw7966617778498774866:=c9
def tw797161822659120268:=c9
def tw797678245628026961:=c9
def tw7981414977921265220:=c9
def tw8004706780314629551:=c9
def tw8018284185868483:=c9
def tw8023198149044254046:=c9
def tw8023700134583850347:=c9
def tw8029098080639522804:=c9
def tw8034337620665961146:=c9
def tw8044321588446354127:=c9
def tw8089087848683087519:=c9
def tw8089493761584000087:=c9
def tw808987288413348582:=c9
def tw8103020390875302226:=c9
def tw8124247360355630694:=c9
def tw8134630344885242585:=c9
def tw8168519935220527897:=c9
def tw8190149494641727013:=c9
def tw8222162761380403622:=c9
def tw8247878712866890689:=c9
def tw8262139495512368597:=c9
def tw8283773405549850782:=c9
def tw8288311122882555615:=c9
def tw8295195414209200829:=c9
def tw8315090510880505738:=c9
def tw8348588541685420630:=c9
def tw8407931142076503171:=c9
def tw8409314233452625840:=c9
def tw8443069657838075102:=c9
def tw8459525705632092096:=c9
def tw8461130172930409161:=c9
def tw8471407062388589924:=c9
def tw850057751188700049:=c9
def tw850680534488190156:=c9
def tw8543002314810908687:=c9
def tw8563389995636127907:=c9
def tw8565560104388084549:=c9
def tw8578642546481096956:=c9
def tw8627736187480275930:=c9
def tw8629701439059819383:=c9
def tw8633681483499422018:=c9
def tw8647153627416923638:=c9
def tw8650384922719722786:=c9
def tw8659184987320809473:=c9
def tw8670864576263647497:=c9
def tw867456573605055204:=c9
def tw8685965458320723977:=c9
def tw8696734524897547267:=c9
def tw8720805883344899506:=c9
def tw8745372154877253144:=c9
def tw8749886410389411691:=c9
def tw8815622146539408486:=c9
def tw8819599690246371200:=c9
def tw8825716643795784053:=c9
def tw8832573469442465745:=c9
def tw8833577235668144356:=c9
def tw8852074302312700453:=c9
def tw8855066458574975878:=c9
def tw8858267399854970173:=c9
def tw8862670749023532533:=c9
def tw8870568666059184500:=c9
def tw888654587436220567:=c9
def tw8890568441322601228:=c9
def tw8892274021899693211:=c9
def tw8895347984136342657:=c9
def tw8896231194219276827:=c9
def tw8911722612298186983:=c9
def tw8915215411332029040:=c9
def tw8921109716165336370:=c9
def tw8923144097643858589:=c9
def tw8952663209186539982:=c9
def tw8954556067939132764:=c9
def tw8959976413654332914:=c9
def tw8964880640524911368:=c9
def tw9003687990785225089:=c9
def tw9013431653824032188:=c9
def tw9025634970572107079:=c9
def tw90315300379870141:=c9
def tw9044059740596595466:=c9
def tw9057607190216207360:=c9
def tw9089283341230138720:=c9
def tw910338609762246728:=c9
def tw9104166755477214784:=c9
def tw9106763537434371563:=c9
def tw9107644569818907686:=c9
def tw9120595032835930795:=c9
def tw9127359848420485408:=c9
def tw913254516265747061:=c9
def tw9163701768281221403:=c9
def tw9179154078713155787:=c9
def tw919048423432341140:=c9
def tw9200260524850318179:=c9
def tw9264191041937495917:=c9
def tw9270567588679057291:=c9
def tw9285541992721643737:=c9
def tw9291481162730888585:=c9
def tw9291656966603230162:=c9
def tw9294384970955121692:=c9
def tw9303914946544683624:=c9
def tw9306608029422374760:=c9
def tw9316526062562409304:=c9
def tw9324907726989517836:=c9
def tw9344558983379710419:=c9
def tw9373662864597031250:=c9
def tw937730837990131754:=c9
def tw9391960613563858705:=c9
def tw9408052220302650969:=c9
def tw9417435472522653679:=c9
def tw9435818299454968069:=c9
def tw9437616205179633838:=c9
def tw945532778085537201:=c9
def tw9464119699346906454:=c9
def tw9478665101226161969:=c9
def tw9501977039539160808:=c9
def tw9521236084672569991:=c9
def tw9524522773602120749:=c9
def tw9527263355689967937:=c9
def tw9542777535122343771:=c9
def tw9556954955372266696:=c9
def tw9560354995109326871:=c9
def tw9561016164653038938:=c9
def tw9586754981164747817:=c9
def tw9604738246443947619:=c9
def tw9605388293394289008:=c9
def tw9605772868559820084:=c9
def tw9619446724332277961:=c9
def tw9623336455620899199:=c9
def tw9635963017926153357:=c9
def tw9642452014767732174:=c9
def tw9654524898323464411:=c9
def tw9668356870986865890:=c9
def tw9669440188738037522:=c9
def tw9674305405966589781:=c9
def tw968253026096743079:=c9
def tw9685656488926630656:=c9
def tw9699214081749254507:=c9
def tw9717004492857849380:=c9
def tw9722989103223354491:=c9
def tw9723474048981132010:=c9
def tw9723915878770685342:=c9
def tw9730367528858700124:=c9
def tw9753684829710545828:=c9
def tw9772694435772601364:=c9
def tw978076731464595989:=c9
def tw9831387370986394335:=c9
def tw9837075850461198750:=c9
def tw9842367201304144288:=c9
def tw9847141707195068990:=c9
def tw9859299256497280204:=c9
def tw9863047205740074604:=c9
def tw9880471746094061051:=c9
def tw9882406753092311230:=c9
def tw9899896180885273162:=c9
def tw9909526296248278408:=c9
def tw9911655947418290135:=c9
def tw9927511927755113800:=c9
def tw9931623422587416216:=c9
def tw9934707748100917484:=c9
def tw9948098528962329837:=c9
def tw996779857411702177:=c9
def tw9993282775755880176:=c9
def tw9993520561011352817:=c9
end t01
set_option tactic.hygienic true in
theorem t01:PySem.Challenge.rw_te0006_01.Holds:=by
 w_on;o_law;k_head
 (case hw=>w_witness2)
 k_go0
 rename_i w s₀ s₁ mg mb G Y fa o pm doc kV ho hg KX X V0 GL T B TE TW x1 x2 M x3 x4 hcd ns hs hlay0 hL1 hr1 hl2 x5 x6 sa vs x7 hL ra w1 r0 hI hr hc1 hc2 K0 hD h₁ F N0
 refine(ZU (ns:=ns) (by omega)).elim fun h' H=>?_
 refine Tz (w:=w) (ns:=ns) (a:=sa) ?C KX T hI hL H rfl rfl rfl rfl rfl K0 F ?hb fun h' tk m' F'=>?fin
 case C=>exact⟨⟨by kernel_rfl,by kernel_rfl,by kernel_rfl,by kernel_rfl,by kernel_rfl,by kernel_rfl,by kernel_rfl,by kernel_rfl,by kernel_rfl,by kernel_rfl,by kernel_rfl,by kernel_rfl,by kernel_rfl,by kernel_rfl,by kernel_rfl,by kernel_rfl,by kernel_rfl,by kernel_rfl,by kernel_rfl,by kernel_rfl,by kernel_rfl,by kernel_rfl,by kernel_rfl,by kernel_rfl,by kernel_rfl,by kernel_rfl,by kernel_rfl,by kernel_rfl,by kernel_rfl,by kernel_rfl,by kernel_rfl,by kernel_rfl,by kernel_rfl,by kernel_rfl,by kernel_rfl,by kernel_rfl,by kernel_rfl,by kernel_rfl,by kernel_rfl,by kernel_rfl,by kernel_rfl,by kernel_rfl,by kernel_rfl,by kernel_rfl,by kernel_rfl,by kernel_rfl,by kernel_rfl,trivial⟩,by kernel_rfl,by kernel_rfl,by kernel_rfl,by kernel_rfl,by kernel_rfl,by kernel_rfl,by kernel_rfl,by kernel_rfl,⟨by kernel_rfl,by kernel_rfl,by kernel_rfl,by kernel_rfl,by kernel_rfl,by kernel_rfl,by kernel_rfl,by kernel_rfl,by kernel_rfl,by kernel_rfl,by kernel_rfl,by kernel_rfl,by kernel_rfl,by kernel_rfl,by kernel_rfl,by kernel_rfl,by kernel_rfl,by kernel_rfl,by kernel_rfl,by kernel_rfl,by kernel_rfl⟩,⟨by kernel_rfl,by kernel_rfl,by kernel_rfl,by kernel_rfl⟩,⟨by kernel_rfl,by kernel_rfl,by kernel_rfl,by kernel_rfl⟩,⟨by kernel_rfl,by kernel_rfl,by kernel_rfl⟩⟩
 case hb=>kernel_rfl
 case fin=>close_w
end Mine.Internal
theorem PySem.Challenge.cw_te0006_01_holds : PySem.Challenge.rw_te0006_01.Holds := by
  exact Mine.Internal.t01
