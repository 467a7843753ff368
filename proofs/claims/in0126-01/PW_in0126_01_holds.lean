import PyProof.Rows.All
import Wide.All
import OpenK.AllK
import Wide.FinOn
import Lean
import PySem.Challenge.RW_in0126_01
set_option Elab.async false
set_option maxRecDepth 100000
set_option tactic.hygienic false
set_option linter.all false
set_option backward.match.sparseCases false
set_option genSizeOf false
set_option genInjectivity false
set_option bootstrap.genMatcherCode false
set_option genCtorIdx false
namespace Mine
abbrev aa:=@Option.some.inj
abbrev ah:=@PySem.wpAny_bind
abbrev aj:=@if_neg
abbrev ak:=@if_pos
abbrev ao:=@Nat.le_refl
abbrev aq:=@PySem.wpAny_pure
abbrev au:=@PySem.Heap.get?_push_size
abbrev az:=@Array.length_toList
abbrev bf:=@PySem.Heap.get?_push_of_some
abbrev bg:=@Nat.le_trans
abbrev bh:=@PySem.wpAny_holding
abbrev bq:=@List.map_cons
abbrev bu:=@List.length_map
abbrev bw:=@List.getElem?_append_left
abbrev bx:=@List.length_filter_le
abbrev bz:=@PySem.Heap.get?_update_self
abbrev b9:=@PySem.wpAny_mono
noncomputable section
section
open PySem
variable {α:Type u} {motive:Option α->Prop}
theorem oc (t:Option α) (none:motive .none) (some:∀a,motive (.some a)):motive t:=Option.casesOn t none some
theorem lc {motive:List α->Prop} (t:List α) (nil:motive []) (cons:∀a l,motive (a::l)):motive t:=List.casesOn t nil cons
theorem bc {motive:Bool->Prop} (t:Bool) (false:motive .false) (true:motive .true):motive t:=Bool.casesOn t false true
theorem zc {motive:Nat->Prop} (t:Nat) (zero:motive 0) (succ:∀n,motive (n+1)):motive t:=Nat.casesOn t zero succ
@[elab_as_elim] theorem five {motive:Nat->Prop} (j:Nat) (h:j<5) (a:motive 0) (b:motive 1) (c:motive 2) (d:motive 3) (e:motive 4):motive j:=match j,h with
 |0,_=>a
 |1,_=>b
 |2,_=>c
 |3,_=>d
 |4,_=>e
inductive V where
 |none
 |bool (b:Bool)
 |int (i:Int)
 |str (s:Str)
 |ref (i:Nat)
 |lst (l:List V)
 |tup (l:List V)
 |dct (l:List (Str × V))
 |rng (n:Nat)
 |vals (i:Nat)
 |glob (a:Nat)
 |bi (id:String)
 |ty (n:String)
 |bm (id:String) (i:Nat)
noncomputable def V.ctorIdx (t:V):Nat:=V.casesOn t 0 (fun _=>1) (fun _=>2) (fun _=>3) (fun _=>4) (fun _=>5) (fun _=>6) (fun _=>7) (fun _=>8) (fun _=>9) (fun _=>10) (fun _=>11) (fun _=>12) (fun _ _=>13)
inductive O where
 |list (l:List V)
 |dict (l:List (Str × V)) (cl:Bool)
 |set (l:List Str)
 |inst (l:List (Str × V))
 |node (n p s:Option V)
 |iter (l i:Nat)
 |obj
 |gone
 |tab
noncomputable def O.ctorIdx (t:O):Nat:=O.casesOn t (fun _=>0) (fun _ _=>1) (fun _=>2) (fun _=>3) (fun _ _ _=>4) (fun _ _=>5) 6 7 8
abbrev Loc:=List (Str × V)
abbrev Sc:=List (Str × NameKind)
structure S where
 AA:Loc
 sc:Sc
 lo:Nat
 hd:Nat
 hp:List O
inductive Out (α:Type) where
 |ok (a:α) (s:S)
 |ex (c:String) (s:S)
noncomputable def Out.ctorIdx {α:Type} (t:Out α):Nat:=Out.casesOn t (fun _ _=>0) (fun _ _=>1)
theorem uc {α:Type} {motive:Out α->Prop} (t:Out α) (ok:∀a s,motive (.ok a s)) (ex:∀c s,motive (.ex c s)):motive t:=Out.casesOn t ok ex
inductive Fl where
 |next | brk | cont
 |ret (v:V)
noncomputable def Fl.ctorIdx (t:Fl):Nat:=Fl.casesOn t 0 1 2 (fun _=>3)
abbrev M (α:Type):=S->Option (Out α)
noncomputable def AF {α:Type} (a:α):M α:=fun s=>some (.ok a s)
noncomputable def AG {α:Type}:M α:=fun _=>.none
noncomputable def DL {α:Type} (c:String):M α:=fun s=>if s.hd=0 then some (.ex c s) else if s.hd=1/\c = "IndexError" then some (.ex "IndexError*" s) else .none
noncomputable def AD {α β:Type} (m:M α) (f:α->M β):M β:=fun s=>match m s with
 | .none=>.none
 |some (.ex c s')=>some (.ex c s')
 |some (.ok a s')=>f a s'
def BR {α:Type}:Option α->M α
 |some a=>AF a
 | .none=>AG
noncomputable def A4 (i:Nat):M O:=fun s=>match s.hp[i]? with
 |some o=>some (.ok o s)
 | .none=>.none
noncomputable def BJ (i:Nat) (o:O):M Unit:=fun s=>if s.lo<=i then some (.ok () {s with hp:=s.hp.set i o}) else .none
noncomputable def newObj (o:O):M V:=fun s=>some (.ok (.ref s.hp.length) {s with hp:=s.hp++[o]})
def Bb (l:List V):M V:=if l.length<=1000 then AF (.lst l) else AG
def D7 (l:List V):M V:=if l.length<=1000 then AF (.tup l) else AG
def newL (l:List V):M V:=if l.length<=1000 then newObj (.list l) else AG
def CO (i:Nat) (l:List V):M Unit:=if l.length<=1000 then BJ i (.list l) else AG
noncomputable def AN (x:Str):Loc->Option V
 | []=>.none
 | (y,v)::r=>if y==x then some v else AN x r
noncomputable def Ao (x:Str) (v:V):Loc->Loc
 | []=>[(x,v)]
 | (y,u)::r=>if y==x then (y,v)::r else (y,u)::Ao x v r
noncomputable def CX (x:Str):Loc->Loc
 | []=>[]
 | (y,u)::r=>if y==x then r else (y,u)::CX x r
noncomputable def Df:List (Str × V):=[
 ("_translate",V.glob 62),("escape",V.glob 55),("_NodeInfo",V.glob 81),("CycleError",V.glob 96),("TopologicalSorter",V.glob 178),("sorted_list_difference",V.glob 189),
 ("_law_rules",V.glob 196),("_law_takes",V.glob 201),("_law_fits",V.glob 206),("_law_levels",V.glob 211),("_law_sorter",V.glob 216),("_law_refused",V.glob 223),("_law_told",V.glob 228),
 ("_NODE_OUT",V.int (-1)),("_NODE_DONE",V.int (-2)),("_twin_re_1",V.glob 43),("_special_chars_map",V.glob 45),
 ("abs",V.bi "abs"),("len",V.bi "len"),("max",V.bi "max"),("min",V.bi "min"),("sorted",V.bi "sorted"),("iter",V.bi "iter"),
 ("range",V.ty "range"),("object",V.ty "object"),("set",V.ty "set"),("tuple",V.ty "tuple"),("isinstance",V.bi "isinstance"),("str",V.ty "str"),
 ("IndexError",V.ty "IndexError"),("StopIteration",V.ty "StopIteration")]
def name (x:Str):M V:=fun s=>match s.sc.lookup x with
 |some .globalImplicit=>match AN x Df with
  |some v=>some (.ok v s)
  | .none=>.none
 |some .local | some .cell | some .free=>match AN x s.AA with
  |some v=>some (.ok v s)
  | .none=>.none
 |_=>.none
def store (x:Str) (v:V):M Unit:=fun s=>match s.sc.lookup x with
 |some .local | some .cell=>some (.ok () {s with AA:=Ao x v s.AA})
 |_=>.none
noncomputable def V.int?:V->Option Int
 | .int i=>some i
 |_=>.none
noncomputable def V.B7:V->Option Str
 | .str s=>some s
 |_=>.none
noncomputable def V.ref?:V->Option Nat
 | .ref i=>some i
 |_=>.none
noncomputable def V.Gz:V->Option (List V)
 | .lst l=>some l
 |_=>.none
noncomputable def V.I8:V->Option (List V)
 | .tup l=>some l
 |_=>.none
noncomputable def V.bool?:V->Option Bool
 | .bool b=>some b
 |_=>.none
noncomputable def both {α β γ:Type} (x:Option α) (y:Option β) (f:α->β->Option γ):Option γ:=match x with
 |some a=>match y with
  |some b=>f a b
  | .none=>.none
 | .none=>.none
def BY {α β γ:Type} (x:Option α) (y:Option β) (f:α->β->M γ):M γ:=match x with
 |some a=>match y with
  |some b=>f a b
  | .none=>AG
 | .none=>AG
noncomputable def V.eq:Nat->V->V->Option Bool
 |0,_,_=>.none
 |n+1,x,y=>match x with
  | .bool a=>both (some a) y.bool? fun a b=>some (a==b)
  | .int a=>both (some a) y.int? fun a b=>some (a==b)
  | .str a=>both (some a) y.B7 fun a b=>some (a==b)
  | .lst a=>both (some a) y.Gz fun a b=>if a.length=b.length then all2 (V.eq n) a b else some false
  | .tup a=>both (some a) y.I8 fun a b=>if a.length=b.length then all2 (V.eq n) a b else if a.isEmpty || b.isEmpty then some false else .none
  |_=>.none
where
 all2 (f:V->V->Option Bool):List V->List V->Option Bool
  |x::a,y::b=>both (f x y) (all2 f a b) fun p q=>some (p&&q)
  |_,_=>some true
noncomputable def fz (lo:Nat) (hp:List O):Nat->V->Option V
 |0,_=>.none
 |d+1,v=>match v with
  | .ref i=>if i<lo then some (.ref i) else match hp[i]? with
   |some (.list l)=>(l.mapM (fz lo hp d)).map .lst
   |_=>.none
  | .lst l=>(l.mapM (fz lo hp d)).map .lst
  | .tup l=>(l.mapM (fz lo hp d)).map .tup
  | .dct _ | .rng _ | .vals _ | .bm _ _=>.none
  |v=>some v
def items (v:V):M (List V):=match v with
 | .lst l=>AF l
 | .tup l=>AF l
 | .ref i=>AD (A4 i) fun o=>match o with
  | .list l=>AF l
  |_=>AG
 |_=>AG
noncomputable def isNone:V->Option Bool
 | .none=>some true
 | .ref _=>some false
 |_=>.none
def same (a b:V):Option Bool:=match b with
 | .none=>isNone a
 | .bool b=>both a.bool? (some b) fun a b=>some (a==b)
 | .ref j=>match a with
  | .ref i=>if i=j then some true else .none
  | .str _=>some false
  |_=>.none
 |_=>.none
def Fv (v:V):M Bool:=match v with
 | .none=>AF false
 | .bool b=>AF b
 | .str s=>AF (s.cps.size != 0)
 |v=>AD (items v) fun l=>AF !l.isEmpty
noncomputable def Dq (a b:Str):Bool:=decide (a.cps.toList<b.cps.toList)
noncomputable def WB (b a:Str):Bool:=!(Builtin.Str.occurrences a b 0 a.length 1).isEmpty
noncomputable def DP {α:Type} (p:V->Option α):List V->Option (List α)
 | []=>some []
 |y::r=>both (p y) (DP p r) fun a as=>some (a::as)
def CU (l:List V):Option (List Str):=DP V.B7 l
def Cb (l:List V):Option (List Int):=DP V.int? l
def Lu (x:V) (l:List V):Option Bool:=match x with
 | .int i=>(Cb l).map (·.any (· == i))
 | .str s=>(CU l).map (·.any (· == s))
 |_=>.none
def JV (x y:V):M Bool:=AD (items y) fun l=>BR (Lu x l)
def PK (a:Str) (i:Nat):M Bool:=AD (A4 i) fun o=>match o with
 | .set l=>AF (l.contains a)
 | .dict l _=>AF (AN a l).isSome
 |_=>AG
def inside (x y:V):M Bool:=match y with
 | .str b=>match x with
  | .str a=>AF (WB a b)
  |_=>AG
 | .ref i=>match x with
  | .str a=>PK a i
  |x=>JV x (.ref i)
 |y=>JV x y
def FN (v:V):M V:=match v with
 | .ref i=>AD (A4 i) fun o=>match o with
  | .list l=>AF (.lst l)
  |_=>AG
 |v=>AF v
def Rt (a b:V):M Bool:=match a with
 | .int x=>BY (some x) b.int? fun x y=>AF (decide (x<y))
 | .str x=>BY (some x) b.B7 fun x y=>AF (Dq x y)
 |_=>AG
def Rr (a b:V):M Bool:=match a with
 | .int x=>BY (some x) b.int? fun x y=>AF (decide (y<x))
 | .str x=>BY (some x) b.B7 fun x y=>AF (Dq y x)
 |_=>AG
def Rq (a b:V):M Bool:=BY a.int? b.int? fun x y=>AF (decide (y<=x))
def cmp (op:CmpOp) (a b:V):M Bool:=match op with
 | .Is=>BR (same a b)
 | .IsNot=>AD (BR (same a b)) fun c=>AF !c
 | .In=>inside a b
 | .NotIn=>AD (inside a b) fun c=>AF !c
 | .Eq=>AD (FN a) fun x=>AD (FN b) fun y=>BR (V.eq 8 x y)
 | .NotEq=>AD (FN a) fun x=>AD (FN b) fun y=>AD (BR (V.eq 8 x y)) fun c=>AF !c
 | .Lt=>Rt a b
 | .Gt=>Rr a b
 | .GtE=>Rq a b
 | .LtE=>AG
noncomputable def Gv:V->Bool
 | .tup _=>true
 |_=>false
def listItems (v:V):M (List V):=if Gv v=false then items v else AG
def Nh (a b:V):M V:=AD (listItems a) fun l=>AD (listItems b) fun r=>Bb (l++r)
def KR (a b:V):M V:=match a with
 | .int x=>BY (some x) b.int? fun x y=>AF (.int (x+y))
 | .str x=>BY (some x) b.B7 fun x y=>if (x++y).length<=1000 then AF (.str (x++y)) else AG
 |a=>Nh a b
def MZ (a b:V):M V:=BY a.Gz b.int? fun l n=>if 0<=n/\n<=1000 then Bb (List.replicate n.toNat l).flatten else AG
def FZ (f:Int->Int->Option Int) (a b:V):M V:=BY a.int? b.int? fun x y=>match f x y with
 |some z=>AF (.int z)
 | .none=>AG
def DF (op:Operator) (a b:V):M V:=match op with
 | .Add=>KR a b
 | .Mult=>MZ a b
 | .Sub=>FZ (fun x y=>some (x-y)) a b
 | .FloorDiv=>FZ (fun x y=>if 0<y/\y<1000 then some (Int.fdiv x y) else .none) a b
 | .Mod=>FZ (fun x y=>if 0<y/\y<1000 then some (Int.fmod x y) else .none) a b
 |_=>AG
def FD (op:Operator) (a b:V):M V:=match op with
 | .Add=>FZ (fun x y=>some (x+y)) a b
 | .Sub=>FZ (fun x y=>some (x-y)) a b
 |_=>AG
noncomputable def place (n:Nat) (i:Int):Option Nat:=match i with
 | .ofNat k=>if k<n then some k else .none
 | .negSucc k=>if k+1<=n then some (n-(k+1)) else .none
noncomputable def clip (n:Nat) (i:Int):Nat:=match i with
 | .ofNat k=>min k n
 | .negSucc k=>n-(k+1)
noncomputable def cut {α:Type} (l:List α) (a b:Nat):List α:=(l.drop a).take (b-a)
def J0 (s:Str) (k:Int):M V:=match place s.cps.size k with
 |some j=>AF (.str ⟨#[s.cps.getD j 0]⟩)
 | .none=>AG
def LL (o:V) (k:Int):M V:=AD (items o) fun l=>match place l.length k with
 |some j=>BR l[j]?
 | .none=>if Gv o=false/\-5000<=k/\k<=5000 then DL "IndexError" else AG
def K7 (o:V) (k:Str):M V:=match o with
 | .dct l=>BR (AN k l)
 | .ref r=>AD (A4 r) fun o=>match o with
  | .dict l _=>BR (AN k l)
  |_=>AG
 |_=>AG
def item (o i:V):M V:=match i with
 | .int k=>match o with
  | .str s=>J0 s k
  |o=>LL o k
 | .str k=>K7 o k
 |_=>AG
def Ej (o:V) (lo up:Option Int):M V:=match o.B7 with
 |some s=>
  let n:=s.cps.size
  AF (.str ⟨(cut s.cps.toList (lo.elim 0 (clip n)) (up.elim n (clip n))).toArray⟩)
 | .none=>AD (listItems o) fun l=>
  let n:=l.length
  Bb (cut l (lo.elim 0 (clip n)) (up.elim n (clip n)))
noncomputable def Gs (x:Str):List Str->List Str
 | []=>[x]
 |y::r=>if Dq x y then x::y::r else y::Gs x r
def DB (l:List Str):List Str:=l.foldl (fun a x=>Gs x a) []
noncomputable def Hr:Int->List Int->Int
 |a,[]=>a
 |a,b::r=>Hr (if a<b then b else a) r
noncomputable def Pq:Int->List Int->Int
 |a,[]=>a
 |a,b::r=>Pq (if b<a then b else a) r
noncomputable def K9:Str->List Str->Str
 |a,[]=>a
 |a,b::r=>K9 (if Dq a b then b else a) r
noncomputable def Er {α:Type} (m:M α):M α:=fun s=>if s.hd=0 then m s else .none
noncomputable def GX {α:Type}:List α->Option (α × List α)
 | []=>.none
 |a::r=>some (a,r)
def maxV (l:List V):M V:=match (Cb l).bind GX with
 |some q=>AF (.int (Hr q.1 q.2))
 | .none=>match (CU l).bind GX with
  |some q=>AF (.str (K9 q.1 q.2))
  | .none=>AG
def Je (l:List V):M V:=match (Cb l).bind GX with
 |some q=>AF (.int (Pq q.1 q.2))
 | .none=>AG
def lenV (v:V):M V:=match v with
 | .str s=>AF (.int s.cps.size)
 |v=>AD (items v) fun l=>AF (.int l.length)
def Ng (v:V):M V:=match v with
 | .int i=>AF (.int i.natAbs)
 |_=>AG
def M6 (v:V):M V:=AD (items v) fun l=>match CU l with
 |some l=>if l.length<64 then Bb ((DB l).map .str) else AG
 | .none=>AG
def MP (v:V):M V:=match v with
 | .ref i=>AD (A4 i) fun o=>match o with
  | .list _=>newObj (.iter i 0)
  |_=>AG
 |_=>AG
def K5 (v t:V):M V:=match v with
 | .str _=>match t with
  | .ty n=>if n = "str" then AF (.bool true) else AG
  |_=>AG
 |_=>AG
def JG (id:String) (v:V):M V:=
 if id = "len" then lenV v
 else if id = "abs" then Ng v
 else if id = "max" then Er (AD (listItems v) maxV)
 else if id = "min" then Er (AD (listItems v) Je)
 else if id = "sorted" then M6 v
 else if id = "iter" then MP v
 else AG
def builtin (id:String) (as:List V):M V:=match as with
 | [v]=>JG id v
 | [v,t]=>if id = "isinstance" then K5 v t else AG
 |_=>AG
def Jp (v:V):M V:=match v with
 | .int k=>if 0<=k/\k<=1000 then AF (.rng k.toNat) else AG
 |_=>AG
def JA (n:String) (as:List V):M V:=match as with
 | []=>if n = "object" then newObj .obj else if n = "set" then newObj (.set []) else AG
 | [v]=>if n = "range" then Jp v else if n = "tuple" then AD (items v) D7 else AG
 |_=>AG
noncomputable def Ho (sep:Str):List Str->Str
 | [x]=>x
 |l=>Builtin.Str.glued sep l
noncomputable def MR:List String:=["append","extend","clear","pop","get","values","add","join","replace","translate"]
def Cc (nm:Str):String:=(MR.find? fun (k:String)=>decide (nm=Str.ofString k)).getD ""
def Ir (i:Nat) (l:List V):M V:=match l.getLast? with
 |some v=>AD (CO i l.dropLast) fun _=>AF v
 | .none=>AG
def Dm (i:Nat) (l:List V) (nm:String) (as:List V):M V:=match as with
 | [v]=>if nm = "append" then AD (CO i (l++[v])) fun _=>AF .none
  else if nm = "extend" then AD (listItems v) fun r=>AD (CO i (l++r)) fun _=>AF .none
  else AG
 | []=>if nm = "clear" then AD (CO i []) fun _=>AF .none
  else if nm = "pop" then Ir i l
  else AG
 |_=>AG
def F7 (i:Nat) (l:List (Str × V)) (nm:String) (as:List V):M V:=match as with
 | [v]=>match v with
  | .str k=>if nm = "get" then AF ((AN k l).getD .none) else AG
  |_=>AG
 | []=>if nm = "values" then AF (.vals i) else AG
 |_=>AG
def GR (i:Nat) (l:List Str) (nm:String) (as:List V):M V:=match as with
 | [v]=>match v with
  | .str k=>if nm = "add"/\l.length<1000 then AD (BJ i (.set (if l.contains k then l else l++[k]))) fun _=>AF .none else AG
  |_=>AG
 |_=>AG
def Fd (i l k:Nat):M V:=AD (A4 l) fun o=>match o with
 | .list xs=>match xs[k]? with
  |some v=>AD (BJ i (.iter l (k+1))) fun _=>AF v
  | .none=>AD (BJ i .gone) fun _=>DL "StopIteration"
 |_=>AG
def Hl (i l k:Nat) (nm:String) (as:List V):M V:=match as with
 | []=>if nm = "__next__" then Fd i l k else AG
 |_=>AG
def method (i:Nat) (nm:String) (as:List V):M V:=AD (A4 i) fun o=>match o with
 | .list l=>Dm i l nm as
 | .dict l _=>F7 i l nm as
 | .set l=>GR i l nm as
 | .iter l k=>Hl i l k nm as
 |_=>AG
def K6 (s:Str) (v:V):M V:=AD (items v) fun l=>match CU l with
 |some l=>if (Ho s l).length<=1000 then AF (.str (Ho s l)) else AG
 | .none=>AG
def Jt (s:Str) (a b:V):M V:=BY a.B7 b.B7 fun a _=>if (Builtin.Str.occurrences s a 0 s.length (s.length+1)).isEmpty then AF (.str s) else AG
def NH (s:Str) (v:V):M V:=match v with
 | .glob a=>fun st=>if st.hd=0/\a=45/\(s = "a"\/s = "b") then some (.ok (.str s) st) else .none
 |_=>AG
def E7 (s:Str) (nm:String) (as:List V):M V:=match as with
 | [v]=>if nm = "join" then K6 s v else if nm = "translate" then NH s v else AG
 | [a,b]=>if nm = "replace" then Jt s a b else AG
 |_=>AG
noncomputable def Gy (nm:String):Option (String × String):=
 if nm = "append" then some ("list","list.append")
 else if nm = "extend" then some ("list","list.extend")
 else if nm = "clear" then some ("list","list.clear")
 else if nm = "pop" then some ("list","list.pop")
 else .none
noncomputable def IT (nm:String):Option (String × String):=if nm = "get" then some ("dict","dict.get") else if nm = "values" then some ("dict","dict.values") else .none
noncomputable def setKind (nm:String):Option (String × String):=if nm = "add" then some ("set","set.add") else .none
def CF (o:O) (nm:String):Option (String × String):=match o with
 | .list _=>Gy nm
 | .dict _ _=>IT nm
 | .set _=>setKind nm
 |_=>.none
noncomputable def EI (nm:String):Option String:=if nm = "join" then some "str.join" else if nm = "replace" then some "str.replace" else if nm = "translate" then some "str.translate" else .none
def GL (p:String × String) (i:Nat) (nm:String) (as:List V):M V:=AD (A4 i) fun o=>
 if CF o nm=some p then method i nm as else AG
noncomputable def EY:List Str:=["_node2info","_ready_nodes","_npassedout","_nfinished"]
def FP (o:V) (a:Str):M V:=match o with
 | .ref i=>AD (A4 i) fun o=>match o with
  | .inst l=>if EY.contains a then BR (AN a l) else AG
  | .node n p s=>if a == "node" then BR n else if a == "npredecessors" then BR p else if a == "successors" then BR s else AG
  | .list _=>if a == "append" then AF (.bm "append" i) else AG
  | .iter _ _=>if a == "__next__" then AF (.bm "__next__" i) else AG
  |_=>AG
 |_=>AG
def H6 (o:V) (a:Str) (v:V):M Unit:=match o with
 | .ref i=>AD (A4 i) fun o=>match o with
  | .inst l=>if EY.contains a/\(Ao a v l).length<=100 then BJ i (.inst (Ao a v l)) else AG
  | .node n p s=>if a == "node" then BJ i (.node (some v) p s) else if a == "npredecessors" then BJ i (.node n (some v) s) else if a == "successors" then BJ i (.node n p (some v)) else AG
  |_=>AG
 |_=>AG
def I0 (o i v:V):M Unit:=BY o.ref? i.B7 fun r k=>AD (A4 r) fun o=>match o with
 | .dict l cl=>if (Ao k v l).length<=1000 then BJ r (.dict (Ao k v l) cl) else AG
 |_=>AG
def F6 (o i:V):M Unit:=BY o.ref? i.B7 fun r k=>AD (A4 r) fun o=>match o with
 | .dict l _=>if (AN k l).isSome then BJ r (.dict (CX k l) false) else AG
 |_=>AG
inductive T where
 |ev (e:Expr)
 |evm (e:Expr)
 |ts (e:Expr)
 |ex (s:Stmt)
 |exs (ss:List Stmt)
 |wh (test:Expr) (body orelse:List Stmt)
 |call (f:Nat) (as:List V)
noncomputable def T.ctorIdx (t:T):Nat:=T.casesOn t (fun _=>0) (fun _=>1) (fun _=>2) (fun _=>3) (fun _=>4) (fun _ _ _=>5) (fun _ _=>6)
inductive Res where
 |v (v:V)
 |b (b:Bool)
 |f (f:Fl)
noncomputable def Res.ctorIdx (t:Res):Nat:=Res.casesOn t (fun _=>0) (fun _=>1) (fun _=>2)
abbrev Ih:=T->M Res
def Ih.v (ih:Ih) (t:T):M V:=AD (ih t) fun o=>match o with
 | .v v=>AF v
 |_=>AG
def Ih.b (ih:Ih) (t:T):M Bool:=AD (ih t) fun o=>match o with
 | .b v=>AF v
 |_=>AG
def Ih.f (ih:Ih) (t:T):M Fl:=AD (ih t) fun o=>match o with
 | .f v=>AF v
 |_=>AG
noncomputable def BG (ih:Ih):List Expr->M (List V)
 | []=>AF []
 | .Starred e _::r=>AD (ih.v (.ev e)) fun v=>AD (items v) fun l=>AD (BG ih r) fun q=>AF (l++q)
 |e::r=>AD (ih.v (.ev e)) fun v=>AD (BG ih r) fun q=>AF (v::q)
noncomputable def two {α:Type}:List α->Option (α × α)
 | [a,b]=>some (a,b)
 |_=>.none
noncomputable def name?:Expr->Option (Str × Pos)
 | .Name x p=>some (x,p)
 |_=>.none
noncomputable def JF:Expr->Option (Expr × Str × Pos)
 | .Attribute o a p=>some (o,a,p)
 |_=>.none
noncomputable def H9:Expr->Option (Expr × Expr × Pos)
 | .Subscript o i p=>some (o,i,p)
 |_=>.none
noncomputable def Rk:Expr->Option (Expr × List Expr × List Keyword × Pos)
 | .Call f as ks p=>some (f,as,ks,p)
 |_=>.none
noncomputable def one? {α:Type}:List α->Option α
 | [a]=>some a
 |_=>.none
def names2 (es:List Expr):Option (Str × Str):=(two es).bind fun q=>both (name? q.1) (name? q.2) fun x y=>some (x.1,y.1)
def Hw (v:V):Option (V × V):=v.I8.bind two
def assign2 (v:V) (es:List Expr):M Unit:=BY (names2 es) (Hw v) fun x a=>Er (AD (store x.1 a.1) fun _=>store x.2 a.2)
def Ci (ih:Ih) (v:V):Expr->M Unit
 | .Name x _=>store x v
 | .Attribute o a _=>AD (ih.v (.ev o)) fun ov=>H6 ov a v
 | .Subscript o i _=>AD (ih.v (.ev o)) fun ov=>AD (ih.v (.ev i)) fun iv=>I0 ov iv v
 | .Tuple es _ _=>assign2 v es
 |_=>AG
noncomputable def HO (ih:Ih) (v:V):List Expr->M Unit
 | []=>AF ()
 |t::r=>AD (Ci ih v t) fun _=>HO ih v r
def QS (v:V):M (Bool × List V):=match v with
 | .rng n=>AF (false,(List.range n).map fun (i:Nat)=>V.int (Int.ofNat i))
 | .vals i=>AD (A4 i) fun o=>match o with
  | .dict l true=>AF (false,l.map (·.2))
  |_=>AG
 | .ref i=>AD (A4 i) fun o=>match o with
  | .list l=>AF (false,l)
  | .dict l true=>AF (true,l.map fun p=>.str p.1)
  |_=>AG
 | .lst l=>AF (false,l)
 | .tup l=>AF (false,l)
 |_=>AG
def Bg (v:V):M (Bool × List V):=fun st=>if st.hd=0 then QS v st else .none
noncomputable def Bs (Ai:V) (kd:Bool) (n k:Nat):M (Option V):=AD (Bg Ai) fun q=>match q with
 | (PY,l)=>if PY=kd/\l.length=n then AF l[k]? else AG
noncomputable def Cm (ih:Ih) (target:Expr) (body orelse:List Stmt) (Ai:V) (kd:Bool) (n:Nat):Nat->M Fl
 |0=>AD (Bs Ai kd n n) fun o=>match o with
  | .none=>ih.f (.exs orelse)
  |some _=>AG
 |r+1=>AD (Bs Ai kd n (n-(r+1))) fun o=>match o with
  | .none=>AG
  |some v=>AD (Ci ih v target) fun _=>AD (ih.f (.exs body)) fun o=>match o with
   | .brk=>AF .next
   | .ret v=>AF (.ret v)
   |_=>Cm ih target body orelse Ai kd n r
noncomputable def DE (ih:Ih):List Expr->M Bool
 | []=>AF true
 |e::r=>AD (ih.b (.ts e)) fun b=>if b then DE ih r else AF false
noncomputable def Gg (ih:Ih):List Expr->M Bool
 | []=>AF false
 |e::r=>AD (ih.b (.ts e)) fun b=>if b then AF true else Gg ih r
noncomputable def C4 (ih:Ih) (Am target:Expr) (Ak:List Expr) (Ai:V) (kd:Bool) (n:Nat):Nat->M (List V)
 |0=>AD (Bs Ai kd n n) fun o=>match o with
  | .none=>AF []
  |some _=>AG
 |r+1=>AD (Bs Ai kd n (n-(r+1))) fun o=>match o with
  | .none=>AG
  |some v=>AD (Ci ih v target) fun _=>AD (DE ih Ak) fun b=>
   if b then AD (ih.v (.ev Am)) fun x=>AD (C4 ih Am target Ak Ai kd n r) fun q=>AF (x::q)
   else C4 ih Am target Ak Ai kd n r
noncomputable def AP (outer inner:Sc):Bool:=inner.all fun p=>!(p.2 == .free) || outer.lookup p.1==some .cell || outer.lookup p.1==some .free
noncomputable def DA (inner:Sc) (AA:Loc):Loc:=AA.filter fun p=>!(inner.lookup p.1==some .local || inner.lookup p.1==some .cell)
noncomputable def GH (sc:Sc):Bool:=sc.lookup (Str.ofString "QUESTION_MARK")==some NameKind.local
noncomputable def JW:Expr->Bool
 | .Set ..=>true
 |_=>false
def IS (iter:Expr) (asy:Int) (sc:Scope):Bool:=asy==0 && !JW iter&&sc.kind == .function&&decide ((sc.names.map (·.1)).Nodup)
def F5 (ih:Ih) (Am target:Expr) (Ak:List Expr) (x:V) (kd:Bool) (n:Nat) (sc:Sc):M (List V):=fun s=>
 match C4 ih Am target Ak x kd n n {s with AA:=DA sc s.AA,sc:=sc} with
  |some (.ok r s')=>some (.ok r {s' with AA:=s.AA,sc:=s.sc})
  |_=>.none
def Ny (ih:Ih) (Am target iter:Expr) (Ak:List Expr) (sc:Sc):M (List V):=AD (ih.v (.ev iter)) fun x=>AD (Bg x) fun p=>
 F5 ih Am target Ak x p.1 p.2.length sc
def comp (ih:Ih) (Am target iter:Expr) (Ak:List Expr) (asy:Int) (sc:Scope):M (List V):=fun s=>
 if AP s.sc sc.names=true/\GH sc.names=false/\IS iter asy sc=true then Ny ih Am target iter Ak sc.names s else .none
noncomputable def HL (ih:Ih) (op:BoolOp):List Expr->M V
 | []=>AG
 | [e]=>ih.v (.ev e)
 |e::r=>AD (ih.v (.ev e)) fun v=>AD (Fv v) fun b=>match op,b with
  | .And,false=>AF v
  | .Or,true=>AF v
  |_,_=>HL ih op r
noncomputable def dictOf (ih:Ih):List (Option Expr)->List Expr->M (List (Str × V))
 | [],[]=>AF []
 |some k::ks,e::es=>AD (ih.v (.ev k)) fun o=>match o with
  | .str s=>AD (ih.v (.ev e)) fun v=>AD (dictOf ih ks es) fun q=>AF ((s,v)::q)
  |_=>AG
 |_,_=>AG
noncomputable def JJ (ks:List (Option Expr)) (es:List Expr):Bool:=ks.all (·.isSome)&&ks.length==es.length && !ks.isEmpty&&decide (ks.length<=15)
def D8 (ih:Ih):Option Expr->M (Option Int)
 | .none=>AF .none
 |some e=>AD (ih.v (.ev e)) fun o=>match o with
  | .int i=>AF (some i)
  |_=>AG
noncomputable def parts (ih:Ih):Str->List Expr->M Str
 |AM,[]=>AF AM
 |AM,.Constant (.str s) _ _::r=>if s.length<=1000/\(AM++s).length<=1000 then parts ih (AM++s) r else AG
 |AM,.FormattedValue e c .none _::r=>if c = -1 then AD (ih.v (.ev e)) fun v=>match v with
  | .str s=>if (AM++s).length<=1000 then parts ih (AM++s) r else AG
  |_=>AG else AG
 |_,_=>AG
structure Fn where
 params:List Str
 rest:Option Str
 body:List Stmt
 sc:Sc
noncomputable def bI (x:Str):Stmt->Option Fn
 | .FunctionDef n as body _ _ _ sc _ _ _=>if n==x then some ⟨as.args.map (·.arg),as.vararg.map (·.arg),body,sc.names⟩ else .none
 |_=>.none
noncomputable def Ck (x:Str):List Stmt->Option Fn
 | []=>.none
 |s::r=>match bI x s with
  |some f=>some f
  | .none=>Ck x r
noncomputable def C3 (x:Str):List Stmt->List Stmt
 | []=>[]
 | .ClassDef n _ _ body _ _ _ _ _ _ _::r=>if n==x then body else C3 x r
 |_::r=>C3 x r
noncomputable abbrev top:List Stmt:=PySem.Challenge.pw_in0126_01.main.body
def fns:List (Nat × Option Fn):=[(55,Ck "escape" top),(62,Ck "_translate" top),(189,Ck "sorted_list_difference" top),(196,Ck "_law_rules" top),(201,Ck "_law_takes" top),(206,Ck "_law_fits" top),
 (211,Ck "_law_levels" top),(216,Ck "_law_sorter" top),(223,Ck "_law_refused" top),(228,Ck "_law_told" top),(235,Ck "law" top),
 (1001,Ck "__init__" (C3 "_NodeInfo" top)),(1002,Ck "__init__" (C3 "TopologicalSorter" top)),(1003,Ck "_get_nodeinfo" (C3 "TopologicalSorter" top)),
 (1004,Ck "add" (C3 "TopologicalSorter" top)),(1005,Ck "prepare" (C3 "TopologicalSorter" top)),(1006,Ck "get_ready" (C3 "TopologicalSorter" top)),
 (1007,Ck "done" (C3 "TopologicalSorter" top)),(1008,Ck "_find_cycle" (C3 "TopologicalSorter" top))]
noncomputable def CZ (a:Nat):List (Nat × Option Fn)->Option Fn
 | []=>.none
 | (b,f)::r=>if b==a then f else CZ a r
noncomputable def methods:List (Str × Nat):=[("_get_nodeinfo",1003),("add",1004),("prepare",1005),("get_ready",1006),("done",1007),("_find_cycle",1008)]
noncomputable def GK (x:Str):List (Str × Nat)->Option Nat
 | []=>.none
 | (y,f)::r=>if y==x then some f else GK x r
noncomputable def Bf (f:Nat):Bool:=[62,189,196,201,206,211,1008].contains f
noncomputable def binds:List Str->List V->Option (Loc × List V)
 | [],vs=>some ([],vs)
 |x::xs,v::vs=>(binds xs vs).map fun p=>((x,v)::p.1,p.2)
 |_::_,[]=>.none
def Bh (f:Fn) (vs:List V):Option Loc:=if vs.length<=1000 then (match binds f.params vs with
 |some (l,rest)=>match f.rest with
  |some x=>some (l++[(x,.tup rest)])
  | .none=>if rest.isEmpty then some l else .none
 | .none=>.none) else .none
set_option backward.match.sparseCases true in
noncomputable def Bk:Expr->Bool
 | .Starred ..=>true
 |_=>false
def NC (x y:Str) (p q:Pos) (es:List Expr):Bool:=
 es.length==2 && !(es.any Bk)&&p.line==q.line && !(x==y) && !es.all (foldedForSure 8) && !es.all (constantsAlone 8)
noncomputable def isTup:Expr->Bool
 | .Tuple ..=>true
 | .List ..=>true
 |_=>false
def EC (ts:List Expr) (e:Expr):Bool:=match ts with
 | [t]=>!Bk t && !(isTup t&&isTup e)
 | [t,u]=>!Bk t && !Bk u
 |_=>false
noncomputable def Dl:Expr->Bool
 | .List ..=>true
 | .ListComp ..=>true
 | .Dict [] [] _=>true
 |_=>false
def Jr (v:V):M V:=match v with
 | .str s=>if s == "ab" || s == "!a" then AF (.str s) else AG
 |_=>AG
noncomputable def JQ:List Nat:=[55,62,189,196,201,206,211,216,223,228,235]
def LA (ih:Ih):M V:=AD (newObj (.inst [])) fun x=>AD (ih.v (.call 1002 [x,.none])) fun r=>match r with | .none=>AF x | _=>AG
def newNode (ih:Ih) (as:List V):M V:=AD (newObj (.node .none .none .none)) fun x=>AD (ih.v (.call 1001 (x::as))) fun r=>match r with | .none=>AF x | _=>AG
def Gn (ih:Ih) (a:Nat) (as:List V):M V:=
 if a=178 then if as.isEmpty then LA ih else AG
 else if a=81 then newNode ih as
 else if JQ.contains a then ih.v (.call a as) else AG
def FG (ih:Ih) (f:V) (as:List V):M V:=match f with
 | .bi id=>builtin id as
 | .ty n=>JA n as
 | .glob a=>Gn ih a as
 | .bm nm i=>method i nm as
 |_=>AG
noncomputable def Qt:Expr->Option (List Expr)
 | .Tuple es _ _=>some es
 |_=>.none
noncomputable def J5 (ts:List Expr) (e:Expr):Option (Str × Str):=match ts with
 | [t]=>both (Qt t) (Qt e) fun us es=>(two us).bind fun q=>both (name? q.1) (name? q.2) fun x y=>if NC x.1 y.1 x.2 y.2 es then some (x.1,y.1) else .none
 |_=>.none
def HA (x y:Str) (v:V):M Unit:=BY (some ()) (Hw v) fun _ q=>AD (store y q.2) fun _=>store x q.1
def Gh (ih:Ih) (ts:List Expr) (e:Expr):M Res:=
 if EC ts e then AD (ih.v (if Dl e then .evm e else .ev e)) fun v=>AD (HO ih v ts) fun _=>AF (.f .next)
 else match J5 ts e with
  |some (x,y)=>fun s=>if s.hd=0/\s.sc.lookup x=some .local/\s.sc.lookup y=some .local then AD (ih.v (.ev e)) (fun v=>AD (HA x y v) fun _=>AF (.f .next)) s else .none
  | .none=>AG
noncomputable def MS (as:Arguments) (sc:Scope):Bool:=as.defaults.isEmpty&&as.kw_defaults.isEmpty&&as.kwonlyargs.isEmpty&&sc.names.all fun p=>!(p.2 == .free)
noncomputable def DK:Expr->Bool
 | .Call (.Name ..) [] [] _=>false
 |_=>true
def DW (as:List Expr):Bool:=as.all (fun e=>!Bk e)&&decide (as.length<30)
def WA (ih:Ih) (x:Str) (nm:Str) (as:List Expr):M V:=if DW as/\(EI (Cc nm)).isSome=true then AD (BG ih as) fun l=>E7 x (Cc nm) l else AG
noncomputable def Tz:Expr->Option (Arguments × Expr × Scope × Pos)
 | .Lambda las b lsc p=>some (las,b,lsc,p)
 |_=>.none
def J1 (ih:Ih) (nm:Str) (as:List Expr):M V:=BY (two as) (some ()) fun q _=>BY (Tz q.1) (some ()) fun g _=>fun s=>
 if nm == "sub"/\GH s.sc=true/\(MS g.1 g.2.2.1 && !Bk q.2)=true then AD (ih.v (.ev q.2)) Jr s else .none
def EX (ih:Ih) (i:Nat) (l:Loc) (nm:Str) (as:List Expr):M V:=match AN nm l with
 |some _=>AG
 | .none=>match GK nm methods with
  |some f=>AD (BG ih as) fun l=>ih.v (.call f (.ref i::l))
  | .none=>AG
def Fe (ih:Ih) (i:Nat) (o:O) (nm:Str) (as:List Expr):M V:=match CF o (Cc nm) with
 |some p=>if DW as then AD (BG ih as) fun l=>GL p i (Cc nm) l else AG
 | .none=>AG
def QB (ih:Ih) (i:Nat) (nm:Str) (as:List Expr):M V:=AD (A4 i) fun o=>match o with
 | .inst l=>EX ih i l nm as
 |o=>Fe ih i o nm as
def HV (ih:Ih) (nm:Str) (as:List Expr) (ov:V):M V:=match ov with
 | .str x=>WA ih x nm as
 | .glob a=>if a=43 then J1 ih nm as else AG
 | .ref i=>QB ih i nm as
 |_=>AG
def Gi (ih:Ih) (o:Expr) (nm:Str) (as:List Expr):M V:=AD (ih.v (.ev o)) (HV ih nm as)
noncomputable def Dy (ih:Ih) (f:Expr) (as:List Expr) (pos:Pos):M V:=match f with
 | .Attribute o nm apos=>if DK o&&apos.endLine==pos.line then Gi ih o nm as else AG
 |f=>AD (ih.v (.ev f)) fun fv=>AD (BG ih as) fun l=>FG ih fv l
noncomputable def slice?:Expr->Option (Option Expr × Option Expr × Option Expr)
 | .Slice lo up st _=>some (lo,up,st)
 |_=>.none
def G9 (ih:Ih) (o i:Expr):M V:=match slice? i with
 |some q=>match q.2.2 with
  | .none=>AD (ih.v (.ev o)) fun ov=>AD (D8 ih q.1) fun l=>AD (D8 ih q.2.1) fun u=>Ej ov l u
  |some _=>AG
 | .none=>AD (ih.v (.ev o)) fun ov=>AD (ih.v (.ev i)) fun iv=>item ov iv
noncomputable def IQ (x:Str) (c:String):Bool:=(x == "IndexError" && (c == "IndexError" || c == "IndexError*")) || (x == "StopIteration" && c == "StopIteration") || (x == "CycleError" && c == "CycleError")
noncomputable def DJ (m:M Fl) (f:Fl->M Fl) (g:String->M Fl):M Fl:=fun s=>match m s with
 | .none=>.none
 |some (.ok r s')=>f r s'
 |some (.ex c s')=>g c s'
def IB (r:Fl) (m:M Fl):M Fl:=match r with
 | .next=>m
 |r=>AF r
noncomputable def IK (k:Nat) (m:M Fl):M Fl:=fun s=>m {s with hd:=k}
noncomputable def Jk (k:Nat) (r:Fl):M Fl:=fun s=>some (.ok r {s with hd:=k})
noncomputable def JL (k:Nat) (c:String):M Fl:=fun s=>some (.ex c {s with hd:=k})
noncomputable def Ly (c:String):M Fl:=fun s=>some (.ex c s)
def handled (ih:Ih) (x:Str) (hb:List Stmt) (k:Nat) (c:String):M Fl:=fun s=>if IQ x c/\s.sc.lookup x=some .globalImplicit then DJ (IK 2 (ih.f (.exs hb))) (Jk k) (fun _=>AG) s else .none
def IC (ih:Ih) (body:List Stmt) (x:Str) (hb orelse:List Stmt):M Fl:=fun s=>DJ (ih.f (.exs body)) (fun r=>IB r (ih.f (.exs orelse))) (handled ih x hb s.hd) s
def L5 (c:String) (g:Fl):M Fl:=match g with
 | .next=>JL 0 c
 |g=>Jk 0 g
def Kh (ih:Ih) (fin:List Stmt) (k:Nat) (c:String):M Fl:=if k=0/\c≠"IndexError*" then DJ (IK 1 (ih.f (.exs fin))) (L5 c) (JL 0) else AG
def LW (ih:Ih) (body fin:List Stmt):M Fl:=fun s=>DJ (ih.f (.exs body)) (fun r=>DJ (ih.f (.exs fin)) (fun g=>IB g (AF r)) Ly) (Kh ih fin s.hd) s
noncomputable def Cd (x:Str):Bool:=!(x==("__debug__" : Str)) && !(x==("__classdict__" : Str))
noncomputable def EZ:Expr->Bool
 | .ListComp ..=>true
 | .SetComp ..=>true
 | .DictComp ..=>true
 |_=>false
def Nu:ExceptHandler->Option (Expr × Stmt × List Stmt × Pos)
 | .ExceptHandler e n hb p=>both e hb.head? fun e b=>match n with
  | .none=>some (e,b,hb.tail,p)
  |some _=>.none
def Kq (hs:List ExceptHandler):Option ((Str × Pos) × Stmt × List Stmt × Pos):=(one? hs).bind fun h=>(Nu h).bind fun q=>(name? q.1).map fun x=>(x,q.2)
def ID (ih:Ih) (body:List Stmt) (hs:List ExceptHandler) (orelse fin:List Stmt):M Fl:=match fin with
 | []=>match Kq hs with
  |some q=>if Cd q.1.1 then IC ih body q.1.1 (q.2.1::q.2.2.1) orelse else AG
  | .none=>AG
 |f0::fin=>if hs.length=0/\orelse.length=0 then LW ih body (f0::fin) else AG
noncomputable def Jo:Expr->Bool
 | .Name ..=>true
 | .Call ..=>true
 | .Attribute ..=>true
 | .Subscript ..=>true
 | .Constant ..=>true
 | .NamedExpr ..=>true
 |_=>false
def Hx (e c:Option Expr):Option ((Str × Pos) × List Expr):=match c with
 |some _=>.none
 | .none=>(e.bind Rk).bind fun q=>if q.2.2.1.isEmpty=true then (name? q.1).map fun x=>(x,q.2.1) else .none
noncomputable def PU (v:V):Bool:=match v with
 | .glob a=>decide (a=96)
 |_=>false
def QK (ih:Ih) (as:List Expr) (v:V):M Fl:=if PU v=true then AD (BG ih as) fun l=>if l.length<=1000 then DL "CycleError" else AG else AG
def Iv (ih:Ih) (x:Str × Pos) (as:List Expr):M Fl:=Er (if DW as then AD (ih.v (.ev (.Name x.1 x.2))) (QK ih as) else AG)
def step (ih:Ih):T->M Res
 | .call f as=>fun s=>match CZ f fns with
  | .none=>.none
  |some fn=>match Bh fn as with
   | .none=>.none
   |some AA=>match ih (.exs fn.body) {s with AA:=AA,sc:=fn.sc,lo:=if Bf f then s.hp.length else s.lo} with
    | .none=>.none
    |some (.ex c s')=>if Bf f then .none else some (.ex c {s' with AA:=s.AA,sc:=s.sc})
    |some (.ok r s')=>match r with
     | .f fl=>
      let v:=match fl with | .ret v=>v | _=>.none
      if Bf f then (match fz s.hp.length s'.hp 4 v with
       |some v'=>some (.ok (.v v') s)
       | .none=>.none)
      else some (.ok (.v v) {s' with AA:=s.AA,sc:=s.sc})
     |_=>.none
 | .evm e=>match e with
  | .List es _=>AD (BG ih es) fun l=>AD (newL l) fun v=>AF (.v v)
  | .ListComp Am [⟨target,iter,Ak,asy⟩] sc _=>AD (comp ih Am target iter Ak asy sc) fun l=>AD (newL l) fun v=>AF (.v v)
  | .Dict [] [] _=>AD (newObj (.dict [] true)) fun v=>AF (.v v)
  |e=>ih (.ev e)
 | .ev e=>match e with
  | .Constant c _ _=>match c with
   | .int i=>AF (.v (.int i))
   | .str s=>if s.length<=1000 then AF (.v (.str s)) else AG
   | .bool b=>AF (.v (.bool b))
   | .none=>AF (.v .none)
   |_=>AG
  | .Name x _=>if Cd x then AD (name x) fun v=>AF (.v v) else AG
  | .BoolOp op es _=>AD (HL ih op es) fun v=>AF (.v v)
  | .NamedExpr (.Name x _) e _=>AD (ih.v (.ev e)) fun v=>AD (store x v) fun _=>AF (.v v)
  | .BinOp l op r _=>AD (ih.v (.ev l)) fun a=>AD (ih.v (.ev r)) fun b=>AD (DF op a b) fun v=>AF (.v v)
  | .UnaryOp .USub (.Constant (.int i) _ _) _=>AF (.v (.int (-i)))
  | .IfExp t a b _=>AD (ih.b (.ts t)) fun c=>if c then ih (.ev a) else ih (.ev b)
  | .Dict ks es _=>if JJ ks es then AD (dictOf ih ks es) fun l=>
   if (l.map (·.1)).Nodup/\l.length<=15 then AF (.v (.dct l)) else AG else AG
  | .List es _=>AD (BG ih es) fun l=>AD (Bb l) fun v=>AF (.v v)
  | .Tuple es _ _=>AD (BG ih es) fun l=>AD (D7 l) fun v=>AF (.v v)
  | .ListComp Am [⟨target,iter,Ak,asy⟩] sc _=>AD (comp ih Am target iter Ak asy sc) fun l=>AD (Bb l) fun v=>AF (.v v)
  | .Compare l [op] [r] _=>if behindInMarks op r then AG else AD (ih.v (.ev l)) fun a=>AD (ih.v (.ev r)) fun b=>AD (cmp op a b) fun c=>AF (.v (.bool c))
  | .JoinedStr es _=>AD (parts ih ⟨#[]⟩ es) fun x=>AF (.v (.str x))
  | .Attribute o a _=>if DK o then AD (ih.v (.ev o)) fun ov=>AD (FP ov a) fun v=>AF (.v v) else AG
  | .Subscript o i _=>AD (G9 ih o i) fun v=>AF (.v v)
  | .Call f as ks pos=>if ks.isEmpty then AD (Dy ih f as pos) fun v=>AF (.v v) else AG
  |_=>AG
 | .ts e=>match e with
  | .BoolOp .And es _=>AD (DE ih es) fun b=>AF (.b b)
  | .BoolOp .Or es _=>AD (Gg ih es) fun b=>AF (.b b)
  | .UnaryOp .Not e _=>AD (ih.b (.ts e)) fun b=>AF (.b !b)
  | .Compare l [op] [r] _=>if behindInMarks op r then AG else AD (ih.v (.ev l)) fun a=>AD (ih.v (.ev r)) fun b=>AD (cmp op a b) fun c=>AF (.b c)
  |e=>if Jo e then AD (ih.v (.ev e)) fun v=>AD (Fv v) fun b=>AF (.b b) else AG
 | .exs ss=>match ss with
  | []=>AF (.f .next)
  |s::r=>AD (ih.f (.ex s)) fun o=>match o with
   | .next=>ih (.exs r)
   |f=>AF (.f f)
 | .wh test body orelse=>AD (ih.b (.ts test)) fun b=>
  if b then
   AD (ih.f (.exs body)) fun o=>match o with
   | .brk=>AF (.f .next)
   | .ret v=>AF (.f (.ret v))
   |_=>ih (.wh test body orelse)
  else ih (.exs orelse)
 | .ex st=>match st with
  | .Assign ts e _=>Gh ih ts e
  | .AugAssign t op e _=>match name? t with
   |some x=>if Cd x.1 then AD (name x.1) fun a=>AD (ih.v (.ev e)) fun b=>AD (FD op a b) fun c=>AD (store x.1 c) fun _=>AF (.f .next) else AG
   | .none=>match JF t with
    |some q=>AD (ih.v (.ev q.1)) fun ov=>AD (FP ov q.2.1) fun a=>AD (ih.v (.ev e)) fun b=>AD (FD op a b) fun c=>AD (H6 ov q.2.1 c) fun _=>AF (.f .next)
    | .none=>AG
  | .Expr e _=>if EZ e then AG else AD (ih.v (.ev e)) fun _=>AF (.f .next)
  | .If t a b _=>AD (ih.b (.ts t)) fun c=>if c then ih (.exs a) else ih (.exs b)
  | .While t a b _=>ih (.wh t a b)
  | .For target iter body orelse _=>AD (ih.v (.ev iter)) fun v=>AD (Bg v) fun q=>match q with
   | (kd,l)=>AD (Cm ih target body orelse v kd l.length l.length) fun f=>AF (.f f)
  | .Return (some e) _=>AD (ih.v (.ev e)) fun v=>AF (.f (.ret v))
  | .Return .none _=>AF (.f (.ret .none))
  | .Break _=>AF (.f .brk)
  | .Continue _=>AF (.f .cont)
  | .Pass _=>AF (.f .next)
  | .Assert t _ _=>AD (ih.b (.ts t)) fun c=>if c then AF (.f .next) else AG
  | .Raise e c _=>match Hx e c with
   |some q=>AD (Iv ih q.1 q.2) fun f=>AF (.f f)
   | .none=>AG
  | .Delete ts _=>match (one? ts).bind H9 with
   |some q=>AD (ih.v (.ev q.1)) fun ov=>AD (ih.v (.ev q.2.1)) fun iv=>AD (F6 ov iv) fun _=>AF (.f .next)
   | .none=>AG
  | .Try body hs orelse fin _=>AD (ID ih body hs orelse fin) fun f=>AF (.f f)
  |_=>AG
noncomputable def run:Nat->Ih
 |0=>fun _=>AG
 |n+1=>step (run n)
end
section
open PySem PySem.W PyProof.Rows
noncomputable def defAt (x:Str):List Stmt->Option (Arguments × List Stmt × Scope)
 | []=>none
 | .FunctionDef n as body _ _ _ sc _ _ _::r=>if n==x then some (as,body,sc) else defAt x r
 |_::r=>defAt x r
def Cq (name qual:Str) (ss:List Stmt) (df kw doc pm:Value) (an:Option Addr) (code ct:Value):FuncData:=match defAt name ss with
 |some (as,body,sc)=>{name,qualname:=qual,params:=as,body:=.stmts body,scope:=sc,globals:=mainGlobals,closure:=[],defaults:=df,kwdefaults:=kw,doc,pyModule:=pm,annotations:=an,code,closureTuple:=ct,builtins:=builtinsNs}
 |none=>default
noncomputable abbrev en (P:Params) (x:Str) (t:Tok) (v:Value):DictEntry:=⟨PyData.keyHash P x,.str x t,v⟩
def KK (P:Params):Frag:=[
 (0,⟨.type "dict",none,.dict #[en P "__name__" 1 (.str "builtins" 160),en P "__doc__" 2 (.builtin "builtins.__doc__:str#opaque"),en P "__package__" 3 (.builtin "builtins.__package__:str#opaque"),en P "__loader__" 4 (.builtin "builtins.__loader__:shared#opaque"),en P "__spec__" 5 (.builtin "builtins.__spec__#opaque"),en P "__build_class__" 6 (.builtin "__build_class__"),en P "__import__" 7 (.builtin "__import__"),en P "abs" 8 (.builtin "abs"),en P "all" 9 (.builtin "all"),en P "any" 10 (.builtin "any"),en P "ascii" 11 (.builtin "ascii"),en P "bin" 12 (.builtin "bin"),en P "breakpoint" 13 (.builtin "breakpoint"),en P "callable" 14 (.builtin "callable"),en P "chr" 15 (.builtin "chr"),en P "compile" 16 (.builtin "compile"),en P "delattr" 17 (.builtin "delattr"),en P "dir" 18 (.builtin "dir"),en P "divmod" 19 (.builtin "divmod"),en P "eval" 20 (.builtin "eval"),en P "exec" 21 (.builtin "exec"),en P "format" 22 (.builtin "format"),en P "getattr" 23 (.builtin "getattr"),en P "globals" 24 (.builtin "globals"),en P "hasattr" 25 (.builtin "hasattr"),en P "hash" 26 (.builtin "hash"),en P "hex" 27 (.builtin "hex"),en P "id" 28 (.builtin "id"),en P "input" 29 (.builtin "input"),en P "isinstance" 30 (.builtin "isinstance"),en P "issubclass" 31 (.builtin "issubclass"),en P "iter" 32 (.builtin "iter"),en P "aiter" 33 (.builtin "aiter"),en P "len" 34 (.builtin "len"),en P "locals" 35 (.builtin "locals"),en P "max" 36 (.builtin "max"),en P "min" 37 (.builtin "min"),en P "next" 38 (.builtin "next"),en P "anext" 39 (.builtin "anext"),en P "oct" 40 (.builtin "oct"),en P "ord" 41 (.builtin "ord"),en P "pow" 42 (.builtin "pow"),en P "print" 43 (.builtin "print"),en P "repr" 44 (.builtin "repr"),en P "round" 45 (.builtin "round"),en P "setattr" 46 (.builtin "setattr"),en P "sorted" 47 (.builtin "sorted"),en P "sum" 48 (.builtin "sum"),en P "vars" 49 (.builtin "vars"),en P "None" 50 (.none),en P "Ellipsis" 51 (.ellipsis),en P "NotImplemented" 52 (.notImplemented),en P "False" 53 (.bool false),en P "True" 54 (.bool true),en P "bool" 55 (.type "bool"),en P "memoryview" 56 (.type "memoryview"),en P "bytearray" 57 (.type "bytearray"),en P "bytes" 58 (.type "bytes"),en P "classmethod" 59 (.type "classmethod"),en P "complex" 60 (.type "complex"),en P "dict" 61 (.type "dict"),en P "enumerate" 62 (.type "enumerate"),en P "filter" 63 (.type "filter"),en P "float" 64 (.type "float"),en P "frozenset" 65 (.type "frozenset"),en P "property" 66 (.type "property"),en P "int" 67 (.type "int"),en P "list" 68 (.type "list"),en P "map" 69 (.type "map"),en P "object" 70 (.type "object"),en P "range" 71 (.type "range"),en P "reversed" 72 (.type "reversed"),en P "set" 73 (.type "set"),en P "slice" 74 (.type "slice"),en P "staticmethod" 75 (.type "staticmethod"),en P "str" 76 (.type "str"),en P "super" 77 (.type "super"),en P "tuple" 78 (.type "tuple"),en P "type" 79 (.type "type"),en P "zip" 80 (.type "zip"),en P "__debug__" 81 (.bool true),en P "BaseException" 82 (.type "BaseException"),en P "BaseExceptionGroup" 83 (.type "BaseExceptionGroup"),en P "Exception" 84 (.type "Exception"),en P "GeneratorExit" 85 (.type "GeneratorExit"),en P "KeyboardInterrupt" 86 (.type "KeyboardInterrupt"),en P "SystemExit" 87 (.type "SystemExit"),en P "ArithmeticError" 88 (.type "ArithmeticError"),en P "AssertionError" 89 (.type "AssertionError"),en P "AttributeError" 90 (.type "AttributeError"),en P "BufferError" 91 (.type "BufferError"),en P "EOFError" 92 (.type "EOFError"),en P "ImportError" 93 (.type "ImportError"),en P "LookupError" 94 (.type "LookupError"),en P "MemoryError" 95 (.type "MemoryError"),en P "NameError" 96 (.type "NameError"),en P "OSError" 97 (.type "OSError"),en P "ReferenceError" 98 (.type "ReferenceError"),en P "RuntimeError" 99 (.type "RuntimeError"),en P "StopAsyncIteration" 100 (.type "StopAsyncIteration"),en P "StopIteration" 101 (.type "StopIteration"),en P "SyntaxError" 102 (.type "SyntaxError"),en P "SystemError" 103 (.type "SystemError"),en P "TypeError" 104 (.type "TypeError"),en P "ValueError" 105 (.type "ValueError"),en P "Warning" 106 (.type "Warning"),en P "FloatingPointError" 107 (.type "FloatingPointError"),en P "OverflowError" 108 (.type "OverflowError"),en P "ZeroDivisionError" 109 (.type "ZeroDivisionError"),en P "BytesWarning" 110 (.type "BytesWarning"),en P "DeprecationWarning" 111 (.type "DeprecationWarning"),en P "EncodingWarning" 112 (.type "EncodingWarning"),en P "FutureWarning" 113 (.type "FutureWarning"),en P "ImportWarning" 114 (.type "ImportWarning"),en P "PendingDeprecationWarning" 115 (.type "PendingDeprecationWarning"),en P "ResourceWarning" 116 (.type "ResourceWarning"),en P "RuntimeWarning" 117 (.type "RuntimeWarning"),en P "SyntaxWarning" 118 (.type "SyntaxWarning"),en P "UnicodeWarning" 119 (.type "UnicodeWarning"),en P "UserWarning" 120 (.type "UserWarning"),en P "BlockingIOError" 121 (.type "BlockingIOError"),en P "ChildProcessError" 122 (.type "ChildProcessError"),en P "ConnectionError" 123 (.type "ConnectionError"),en P "FileExistsError" 124 (.type "FileExistsError"),en P "FileNotFoundError" 125 (.type "FileNotFoundError"),en P "InterruptedError" 126 (.type "InterruptedError"),en P "IsADirectoryError" 127 (.type "IsADirectoryError"),en P "NotADirectoryError" 128 (.type "NotADirectoryError"),en P "PermissionError" 129 (.type "PermissionError"),en P "ProcessLookupError" 130 (.type "ProcessLookupError"),en P "TimeoutError" 131 (.type "TimeoutError"),en P "IndentationError" 132 (.type "IndentationError"),en P "_IncompleteInputError" 133 (.type "_IncompleteInputError"),en P "IndexError" 134 (.type "IndexError"),en P "KeyError" 135 (.type "KeyError"),en P "ModuleNotFoundError" 136 (.type "ModuleNotFoundError"),en P "NotImplementedError" 137 (.type "NotImplementedError"),en P "PythonFinalizationError" 138 (.type "PythonFinalizationError"),en P "RecursionError" 139 (.type "RecursionError"),en P "UnboundLocalError" 140 (.type "UnboundLocalError"),en P "UnicodeError" 141 (.type "UnicodeError"),en P "BrokenPipeError" 142 (.type "BrokenPipeError"),en P "ConnectionAbortedError" 143 (.type "ConnectionAbortedError"),en P "ConnectionRefusedError" 144 (.type "ConnectionRefusedError"),en P "ConnectionResetError" 145 (.type "ConnectionResetError"),en P "TabError" 146 (.type "TabError"),en P "UnicodeDecodeError" 147 (.type "UnicodeDecodeError"),en P "UnicodeEncodeError" 148 (.type "UnicodeEncodeError"),en P "UnicodeTranslateError" 149 (.type "UnicodeTranslateError"),en P "ExceptionGroup" 150 (.type "ExceptionGroup"),en P "EnvironmentError" 151 (.type "OSError"),en P "IOError" 152 (.type "OSError"),en P "open" 153 (.builtin "open"),en P "quit" 154 (.builtin "builtins.quit#opaque"),en P "exit" 155 (.builtin "builtins.exit#opaque"),en P "copyright" 156 (.builtin "builtins.copyright#opaque"),en P "credits" 157 (.builtin "builtins.credits#opaque"),en P "license" 158 (.builtin "builtins.license#opaque"),en P "help" 159 (.builtin "builtins.help#opaque")] 159,#[]⟩),
 (1,⟨.type "dict",none,.dict #[en P "builtins" 162 (.ref 4),en P "__main__" 163 (.ref 5),en P "_sre" 244 (.ref 12)] 3,#[]⟩),
 (2,⟨.none,none,.dict #[en P "\x69mport.loaded._sre" 183 (.bool true),en P "class._frozen_importlib.BuiltinImporter" 185 (.ref 14),en P "watched.\x69mport" 206 (.ref 18),en P "class._frozen_importlib.ModuleSpec" 216 (.ref 22),en P "sys.modules.booked-epoch" 245 (.int (3) 0),en P "\x69mport.later-laid._sre" 270 (.bool true),en P "watched.library" 272 (.ref 27),en P "watched.library-objects" 0 (.str ⟨#[12]⟩ 0),en P "watched.library-deep._sre" 273 (.str ⟨#[4,0,0,11,4,0,0,11,4,0,0,3,4,0,0,11,8,4,100,105,99,116,2]⟩ 0)] 9,#[]⟩),
 (3,⟨.type "dict",none,.dict #[en P "__name__" 165 (.str "law_in0126_01" 701),en P "__doc__" 166 (.none),en P "__package__" 167 (.none),en P "__loader__" 168 (.builtin "__main__.__loader__#opaque"),en P "__spec__" 169 (.none),en P "__annotations__" 170 (.ref 6),en P "__builtins__" 171 (.ref 4),en P "__file__" 173 (.str "/claim/cut.py" 172),en P "__cached__" 174 (.none),en P "_sre" 275 (.ref 12),en P "_wall" 288 (.ref 38),en P "_twin_re_1" 326 (.ref 43),en P "_special_chars_map" 474 (.ref 45),en P "escape" 481 (.ref 55),en P "_translate" 502 (.ref 62),en P "_NODE_OUT" 507 (.int (-1) 506),en P "_NODE_DONE" 510 (.int (-2) 509),en P "_NodeInfo" 547 (.ref 81),en P "CycleError" 565 (.ref 96),en P "TopologicalSorter" 684 (.ref 178),en P "sorted_list_difference" 700 (.ref 189),en P "_law_rules" 714 (.ref 196),en P "_law_takes" 720 (.ref 201),en P "_law_fits" 726 (.ref 206),en P "_law_levels" 732 (.ref 211),en P "_law_sorter" 738 (.ref 216),en P "_law_refused" 745 (.ref 223),en P "_law_told" 751 (.ref 228),en P "law" 762 (.ref 235)] 29,#[]⟩),
 (4,⟨.type "module",some 0,.plain,#[]⟩),
 (42,⟨.type "tuple",none,.seq #[.int (14) 0,.int (14) 0,.int (4) 0,.int (1) 0,.int (1) 0,.int (9) 0,.int (0) 0,.int (64) 0,.int (0) 0,.int (1342177280) 0,.int (0) 0,.int (0) 0,.int (0) 0,.int (0) 0,.int (0) 0,.int (17) 0,.int (0) 0,.int (13) 0,.int (11) 0,.int (9) 0,.int (0) 0,.int (64) 0,.int (0) 0,.int (1342177280) 0,.int (0) 0,.int (0) 0,.int (0) 0,.int (0) 0,.int (0) 0,.int (17) 0,.int (1) 0,.int (1) 0] 0,#[]⟩),
 (43,⟨.type "re.Pattern",none,.fields #[.str "([&~|])" 290,.int (32) 325,.int (1) 0,.none,.none,.ref 42,.int (0) 0],#[]⟩),
 (45,⟨.type "dict",none,.dict #[⟨40,.int (40) 330,.str "\\(" 334⟩,⟨41,.int (41) 336,.str "\\)" 340⟩,⟨91,.int (91) 342,.str "\\[" 346⟩,⟨93,.int (93) 348,.str "\\]" 352⟩,⟨123,.int (123) 354,.str "\\{" 358⟩,⟨125,.int (125) 360,.str "\\}" 364⟩,⟨63,.int (63) 366,.str "\\?" 370⟩,⟨42,.int (42) 372,.str "\\*" 376⟩,⟨43,.int (43) 378,.str "\\+" 382⟩,⟨45,.int (45) 384,.str "\\-" 388⟩,⟨124,.int (124) 390,.str "\\|" 394⟩,⟨94,.int (94) 396,.str "\\^" 400⟩,⟨36,.int (36) 402,.str "\\$" 406⟩,⟨92,.int (92) 408,.str "\\\\" 412⟩,⟨46,.int (46) 414,.str "\\." 418⟩,⟨38,.int (38) 420,.str "\\&" 424⟩,⟨126,.int (126) 426,.str "\\~" 430⟩,⟨35,.int (35) 432,.str "\\#" 436⟩,⟨32,.int (32) 438,.str "\\ " 442⟩,⟨9,.int (9) 444,.str ⟨#[92,9]⟩ 448⟩,⟨10,.int (10) 450,.str ⟨#[92,10]⟩ 454⟩,⟨13,.int (13) 456,.str ⟨#[92,13]⟩ 460⟩,⟨11,.int (11) 462,.str ⟨#[92,11]⟩ 466⟩,⟨12,.int (12) 468,.str ⟨#[92,12]⟩ 472⟩] 24,#[]⟩),
 (54,⟨.type "code",none,.fields #[.str "escape" 475,.str "escape" 476,.str "/claim/cut.py" 477,.int (8) 0,.int (1) 0,.int (0) 0,.int (0) 0,.int (3) 0,.ref 49,.bool true,.int (276) 0,.ref 50,.none,.ref 51,.ref 52,.ref 53,.int (479) 0,.int (8) 0,.str "/claim/cut.py" 480],#[]⟩),
 (55,⟨.type "function",none,.func (Cq "escape" "escape" top (.none) (.none) (.none) (.str "re" 327) (none) (.ref 54) (.none)),#[]⟩),
 (61,⟨.type "code",none,.fields #[.str "_translate" 484,.str "_translate" 485,.str "/claim/cut.py" 486,.int (15) 0,.int (3) 0,.int (0) 0,.int (0) 0,.int (3) 0,.ref 56,.bool true,.int (276) 0,.ref 57,.none,.ref 58,.ref 59,.ref 60,.int (500) 0,.int (15) 0,.str "/claim/cut.py" 501],#[]⟩),
 (62,⟨.type "function",none,.func (Cq "_translate" "_translate" top (.none) (.none) (.none) (.str "cpy313.fnmatch" 482) (none) (.ref 61) (.none)),#[]⟩),
 (76,⟨.type "code",none,.fields #[.str "__init__" 527,.str "_NodeInfo.__init__" 528,.str "/claim/cut.py" 529,.int (83) 0,.int (2) 0,.int (0) 0,.int (0) 0,.int (3) 0,.ref 71,.bool true,.int (276) 0,.ref 72,.none,.ref 73,.ref 74,.ref 75,.int (532) 0,.int (83) 0,.str "/claim/cut.py" 533],#[]⟩),
 (77,⟨.type "function",none,.func (Cq "__init__" "_NodeInfo.__init__" (C3 "_NodeInfo" top) (.none) (.none) (.none) (.str "cpy313.graphlib" 503) (none) (.ref 76) (.none)),#[]⟩),
 (80,⟨.type "dict",none,.dict #[en P "__module__" 518 (.str "cpy313.graphlib" 503),en P "__firstlineno__" 522 (.int (80) 521),en P "__slots__" 526 (.ref 70),en P "__init__" 534 (.ref 77),en P "__static_attributes__" 538 (.ref 78),en P "node" 540 (.ref 82),en P "npredecessors" 542 (.ref 83),en P "successors" 544 (.ref 84),en P "__doc__" 545 (.none)] 5,#[]⟩),
 (81,⟨.type "type",none,.cls {name:="_NodeInfo",bases:=[.type "object"],mro:=[.ref 81,.type "object"],ns:=80,qualname:="_NodeInfo",hasDict:=false,slotNames:=["node","npredecessors","successors"],subclasses:=[],abstract:=false,collection:=none,hasDel:=false},#[none,none,some (.str "_NodeInfo" 511),some (.str "_NodeInfo" 519),some (.builtin "object.__new__"),some (.bool false)]⟩),
 (82,⟨.type "member_descriptor",none,.fields #[.str "node" 539,.ref 81,.builtin "proto.slot",.builtin "proto.slot#set",.int (2) 0],#[]⟩),
 (83,⟨.type "member_descriptor",none,.fields #[.str "npredecessors" 541,.ref 81,.builtin "proto.slot",.builtin "proto.slot#set",.int (1) 0],#[]⟩),
 (84,⟨.type "member_descriptor",none,.fields #[.str "successors" 543,.ref 81,.builtin "proto.slot",.builtin "proto.slot#set",.int (0) 0],#[]⟩),
 (95,⟨.type "dict",none,.dict #[en P "__module__" 555 (.str "cpy313.graphlib" 503),en P "__firstlineno__" 559 (.int (87) 558),en P "__static_attributes__" 560 (.ref 94),en P "__weakref__" 562 (.ref 97),en P "__doc__" 563 (.none)] 3,#[]⟩),
 (96,⟨.type "type",none,.cls {name:="CycleError",bases:=[.type "ValueError"],mro:=[.ref 96,.type "ValueError",.type "Exception",.type "BaseException",.type "object"],ns:=95,qualname:="CycleError",hasDict:=true,slotNames:=[],subclasses:=[],abstract:=false,collection:=none,hasDel:=false},#[some (.ref 87),none,some (.str "CycleError" 548),some (.str "CycleError" 556),some (.builtin "ValueError.__new__"),some (.bool true)]⟩),
 (107,⟨.type "tuple",none,.seq #[.none] 0,#[]⟩),
 (113,⟨.type "code",none,.fields #[.str "__init__" 578,.str "TopologicalSorter.__init__" 579,.str "/claim/cut.py" 580,.int (91) 0,.int (2) 0,.int (0) 0,.int (0) 0,.int (3) 0,.ref 108,.bool true,.int (276) 0,.ref 109,.none,.ref 110,.ref 111,.ref 112,.int (585) 0,.int (91) 0,.str "/claim/cut.py" 586],#[]⟩),
 (114,⟨.type "function",none,.func (Cq "__init__" "TopologicalSorter.__init__" (C3 "TopologicalSorter" top) (.ref 107) (.none) (.none) (.str "cpy313.graphlib" 503) (none) (.ref 113) (.none)),#[]⟩),
 (120,⟨.type "code",none,.fields #[.str "_get_nodeinfo" 588,.str "TopologicalSorter._get_nodeinfo" 589,.str "/claim/cut.py" 590,.int (100) 0,.int (2) 0,.int (0) 0,.int (0) 0,.int (3) 0,.ref 115,.bool true,.int (276) 0,.ref 116,.none,.ref 117,.ref 118,.ref 119,.int (594) 0,.int (100) 0,.str "/claim/cut.py" 595],#[]⟩),
 (121,⟨.type "function",none,.func (Cq "_get_nodeinfo" "TopologicalSorter._get_nodeinfo" (C3 "TopologicalSorter" top) (.none) (.none) (.none) (.str "cpy313.graphlib" 503) (none) (.ref 120) (.none)),#[]⟩),
 (127,⟨.type "code",none,.fields #[.str "add" 597,.str "TopologicalSorter.add" 598,.str "/claim/cut.py" 599,.int (105) 0,.int (2) 0,.int (0) 0,.int (0) 0,.int (7) 0,.ref 122,.bool true,.int (276) 0,.ref 123,.none,.ref 124,.ref 125,.ref 126,.int (606) 0,.int (105) 0,.str "/claim/cut.py" 607],#[]⟩),
 (128,⟨.type "function",none,.func (Cq "add" "TopologicalSorter.add" (C3 "TopologicalSorter" top) (.none) (.none) (.none) (.str "cpy313.graphlib" 503) (none) (.ref 127) (.none)),#[]⟩),
 (132,⟨.type "code",none,.fields #[.str "prepare" 609,.str "TopologicalSorter.prepare" 610,.str "/claim/cut.py" 611,.int (114) 0,.int (1) 0,.int (0) 0,.int (0) 0,.int (3) 0,.ref 129,.bool true,.int (276) 0,.ref 130,.none,.none,.none,.ref 131,.int (612) 0,.int (114) 0,.str "/claim/cut.py" 613],#[]⟩),
 (133,⟨.type "function",none,.func (Cq "prepare" "TopologicalSorter.prepare" (C3 "TopologicalSorter" top) (.none) (.none) (.none) (.str "cpy313.graphlib" 503) (none) (.ref 132) (.none)),#[]⟩),
 (139,⟨.type "code",none,.fields #[.str "get_ready" 615,.str "TopologicalSorter.get_ready" 616,.str "/claim/cut.py" 617,.int (122) 0,.int (1) 0,.int (0) 0,.int (0) 0,.int (3) 0,.ref 134,.bool true,.int (276) 0,.ref 135,.none,.ref 136,.ref 137,.ref 138,.int (622) 0,.int (122) 0,.str "/claim/cut.py" 623],#[]⟩),
 (140,⟨.type "function",none,.func (Cq "get_ready" "TopologicalSorter.get_ready" (C3 "TopologicalSorter" top) (.none) (.none) (.none) (.str "cpy313.graphlib" 503) (none) (.ref 139) (.none)),#[]⟩),
 (160,⟨.type "code",none,.fields #[.str "done" 639,.str "TopologicalSorter.done" 640,.str "/claim/cut.py" 641,.int (141) 0,.int (1) 0,.int (0) 0,.int (0) 0,.int (7) 0,.ref 155,.bool true,.int (276) 0,.ref 156,.none,.ref 157,.ref 158,.ref 159,.int (650) 0,.int (141) 0,.str "/claim/cut.py" 651],#[]⟩),
 (161,⟨.type "function",none,.func (Cq "done" "TopologicalSorter.done" (C3 "TopologicalSorter" top) (.none) (.none) (.none) (.str "cpy313.graphlib" 503) (none) (.ref 160) (.none)),#[]⟩),
 (167,⟨.type "code",none,.fields #[.str "_find_cycle" 653,.str "TopologicalSorter._find_cycle" 654,.str "/claim/cut.py" 655,.int (164) 0,.int (1) 0,.int (0) 0,.int (0) 0,.int (3) 0,.ref 162,.bool true,.int (276) 0,.ref 163,.none,.ref 164,.ref 165,.ref 166,.int (663) 0,.int (164) 0,.str "/claim/cut.py" 664],#[]⟩),
 (168,⟨.type "function",none,.func (Cq "_find_cycle" "TopologicalSorter._find_cycle" (C3 "TopologicalSorter" top) (.none) (.none) (.none) (.str "cpy313.graphlib" 503) (none) (.ref 167) (.none)),#[]⟩),
 (177,⟨.type "dict",none,.dict #[en P "__module__" 573 (.str "cpy313.graphlib" 503),en P "__firstlineno__" 577 (.int (89) 576),en P "__init__" 587 (.ref 114),en P "_get_nodeinfo" 596 (.ref 121),en P "add" 608 (.ref 128),en P "prepare" 614 (.ref 133),en P "get_ready" 624 (.ref 140),en P "is_active" 631 (.ref 147),en P "__bool__" 638 (.ref 154),en P "done" 652 (.ref 161),en P "_find_cycle" 665 (.ref 168),en P "static_order" 672 (.ref 175),en P "__static_attributes__" 677 (.ref 176),en P "__dict__" 679 (.ref 179),en P "__weakref__" 681 (.ref 180),en P "__doc__" 682 (.none)] 4,#[]⟩),
 (178,⟨.type "type",none,.cls {name:="TopologicalSorter",bases:=[.type "object"],mro:=[.ref 178,.type "object"],ns:=177,qualname:="TopologicalSorter",hasDict:=true,slotNames:=[],subclasses:=[],abstract:=false,collection:=none,hasDel:=false},#[none,none,some (.str "TopologicalSorter" 566),some (.str "TopologicalSorter" 574),some (.builtin "object.__new__"),some (.bool true)]⟩),
 (188,⟨.type "code",none,.fields #[.str "sorted_list_difference" 687,.str "sorted_list_difference" 688,.str "/claim/cut.py" 689,.int (196) 0,.int (2) 0,.int (0) 0,.int (0) 0,.int (3) 0,.ref 183,.bool true,.int (276) 0,.ref 184,.none,.ref 185,.ref 186,.ref 187,.int (698) 0,.int (196) 0,.str "/claim/cut.py" 699],#[]⟩),
 (189,⟨.type "function",none,.func (Cq "sorted_list_difference" "sorted_list_difference" top (.none) (.none) (.none) (.str "cpy313.unittest.util" 685) (none) (.ref 188) (.none)),#[]⟩),
 (195,⟨.type "code",none,.fields #[.str "_law_rules" 703,.str "_law_rules" 704,.str "/claim/cut.py" 705,.int (229) 0,.int (1) 0,.int (0) 0,.int (0) 0,.int (3) 0,.ref 190,.bool true,.int (276) 0,.ref 191,.none,.ref 192,.ref 193,.ref 194,.int (712) 0,.int (229) 0,.str "/claim/cut.py" 713],#[]⟩),
 (196,⟨.type "function",none,.func (Cq "_law_rules" "_law_rules" top (.none) (.none) (.none) (.str "law_in0126_01" 701) (none) (.ref 195) (.none)),#[]⟩),
 (200,⟨.type "code",none,.fields #[.str "_law_takes" 715,.str "_law_takes" 716,.str "/claim/cut.py" 717,.int (240) 0,.int (3) 0,.int (0) 0,.int (0) 0,.int (3) 0,.ref 197,.bool true,.int (276) 0,.ref 198,.none,.none,.none,.ref 199,.int (718) 0,.int (240) 0,.str "/claim/cut.py" 719],#[]⟩),
 (201,⟨.type "function",none,.func (Cq "_law_takes" "_law_takes" top (.none) (.none) (.none) (.str "law_in0126_01" 701) (none) (.ref 200) (.none)),#[]⟩),
 (205,⟨.type "code",none,.fields #[.str "_law_fits" 721,.str "_law_fits" 722,.str "/claim/cut.py" 723,.int (248) 0,.int (2) 0,.int (0) 0,.int (0) 0,.int (3) 0,.ref 202,.bool true,.int (276) 0,.ref 203,.none,.none,.none,.ref 204,.int (724) 0,.int (248) 0,.str "/claim/cut.py" 725],#[]⟩),
 (206,⟨.type "function",none,.func (Cq "_law_fits" "_law_fits" top (.none) (.none) (.none) (.str "law_in0126_01" 701) (none) (.ref 205) (.none)),#[]⟩),
 (210,⟨.type "code",none,.fields #[.str "_law_levels" 727,.str "_law_levels" 728,.str "/claim/cut.py" 729,.int (255) 0,.int (2) 0,.int (0) 0,.int (0) 0,.int (3) 0,.ref 207,.bool true,.int (276) 0,.ref 208,.none,.none,.none,.ref 209,.int (730) 0,.int (255) 0,.str "/claim/cut.py" 731],#[]⟩),
 (211,⟨.type "function",none,.func (Cq "_law_levels" "_law_levels" top (.none) (.none) (.none) (.str "law_in0126_01" 701) (none) (.ref 210) (.none)),#[]⟩),
 (215,⟨.type "code",none,.fields #[.str "_law_sorter" 733,.str "_law_sorter" 734,.str "/claim/cut.py" 735,.int (261) 0,.int (2) 0,.int (0) 0,.int (0) 0,.int (3) 0,.ref 212,.bool true,.int (276) 0,.ref 213,.none,.none,.none,.ref 214,.int (736) 0,.int (261) 0,.str "/claim/cut.py" 737],#[]⟩),
 (216,⟨.type "function",none,.func (Cq "_law_sorter" "_law_sorter" top (.none) (.none) (.none) (.str "law_in0126_01" 701) (none) (.ref 215) (.none)),#[]⟩),
 (222,⟨.type "code",none,.fields #[.str "_law_refused" 739,.str "_law_refused" 740,.str "/claim/cut.py" 741,.int (270) 0,.int (1) 0,.int (0) 0,.int (0) 0,.int (3) 0,.ref 217,.bool true,.int (276) 0,.ref 218,.none,.ref 219,.ref 220,.ref 221,.int (743) 0,.int (270) 0,.str "/claim/cut.py" 744],#[]⟩),
 (223,⟨.type "function",none,.func (Cq "_law_refused" "_law_refused" top (.none) (.none) (.none) (.str "law_in0126_01" 701) (none) (.ref 222) (.none)),#[]⟩),
 (227,⟨.type "code",none,.fields #[.str "_law_told" 746,.str "_law_told" 747,.str "/claim/cut.py" 748,.int (276) 0,.int (3) 0,.int (0) 0,.int (0) 0,.int (3) 0,.ref 224,.bool true,.int (276) 0,.ref 225,.none,.none,.none,.ref 226,.int (749) 0,.int (276) 0,.str "/claim/cut.py" 750],#[]⟩),
 (228,⟨.type "function",none,.func (Cq "_law_told" "_law_told" top (.none) (.none) (.none) (.str "law_in0126_01" 701) (none) (.ref 227) (.none)),#[]⟩),
 (234,⟨.type "code",none,.fields #[.str "law" 752,.str "law" 753,.str "/claim/cut.py" 754,.int (289) 0,.int (1) 0,.int (0) 0,.int (0) 0,.int (3) 0,.ref 229,.bool true,.int (276) 0,.ref 230,.none,.ref 231,.ref 232,.ref 233,.int (760) 0,.int (289) 0,.str "/claim/cut.py" 761],#[]⟩),
 (235,⟨.type "function",none,.func (Cq "law" "law" top (.none) (.none) (.none) (.str "law_in0126_01" 701) (none) (.ref 234) (.none)),#[]⟩)]
end
section
open PySem PySem.W PyProof.Rows PySem.Calls
noncomputable abbrev pw:=PySem.Challenge.pw_in0126_01
noncomputable abbrev Fg:=PySem.Challenge.rw_in0126_01
def qv:Program:=view pw [24]
noncomputable def MX:List Str:=["_sre","_wall","_twin_re_1","_special_chars_map","escape","_translate","_NODE_OUT","_NODE_DONE","_NodeInfo","CycleError","TopologicalSorter","sorted_list_difference","_law_rules","_law_takes","_law_fits","_law_levels","_law_sorter","_law_refused","_law_told"]
def KX (P:Params):Frag:=(6,⟨.type "dict",none,.dict #[] 0,#[]⟩)::KK P
noncomputable def Q7:List Addr:=[6,0,1,2,3,4,42,43,45,54,55,61,62,76,77,80,81,82,83,84,95,96,107,113,114,120,121,127,128,132,133,139,140,160,161,167,168,177,178,188,189,195,196,200,201,205,206,210,211,215,216,222,223,227,228,234,235]
theorem XI (P:Params):Q7=(KX P).map (·.1):=by rfl
def HK:Hook:=kmHook KX Q7 XI [57]
def RM (s:Shared):Bool:=xlAt qv [] s&&recOk [] s
abbrev IE (w:World):Prop:=(openEnds treeTable pw w 5612).map (fun s=>(openSeen qv MX (importedModules pw.main.body) RM true s,HK.obs s))=some (openGood qv MX,HK.val w)
theorem gR (w:World):IE ((w.withFollow "comprehension-iter-twice" false).withFollow "special-get-raises" false):=by kernel_rfl
theorem gT (w:World):IE ((w.withFollow "comprehension-iter-twice" false).withFollow "special-get-raises" true):=by kernel_rfl
theorem gU (w:World):IE ((w.withFollow "comprehension-iter-twice" true).withFollow "special-get-raises" false):=by kernel_rfl
theorem gV (w:World):IE ((w.withFollow "comprehension-iter-twice" true).withFollow "special-get-raises" true):=by kernel_rfl
theorem hl:LeftO pw qv MX RM HK.obs HK.val 5612:=fun w=>
 byRow2 (P:=IE) "special-get-raises"
  (fun w=>byRow2 (P:=fun v=>IE (v.withFollow "special-get-raises" false)) "comprehension-iter-twice" gR gU w)
  (fun w=>byRow2 (P:=fun v=>IE (v.withFollow "special-get-raises" true)) "comprehension-iter-twice" gT gV w) w
end
section
open PySem PySem.W PyProof.Rows
variable {P:Params} {φ AE:Fz} {ρ ρ' a b c:AZ} {i:Nat} {p:Addr × Option Addr} {v:List DictEntry} {x:List (Str × V)}
abbrev Fz:=Addr->Option Obj
abbrev AZ:=List (Addr × Option Addr)
noncomputable def Aa (ρ:AZ):List Addr:=ρ.flatMap fun p=>p.1::p.2.toList
theorem KS (ρ τ:AZ):Aa (ρ++τ)=Aa ρ++Aa τ:=List.flatMap_append
noncomputable def Ba (xs:Array Value) (n:Nat):Obj:={cls:=.type "list",data:=.seq xs n}
noncomputable def E8 (xs:Array Value) (n:Nat):Obj:={cls:=.type "tuple",data:=.seq xs n}
noncomputable def HW (es:Array DictEntry) (n:Nat):Obj:={cls:=.type "dict",data:=.dict es n}
mutual
inductive VR (P:Params) (φ:Fz) (ρ:AZ):Value->V->Prop
 |none:VR P φ ρ .none .none
 |bool (b:Bool):VR P φ ρ (.bool b) (.bool b)
 |int (i:Int) (t:Tok):VR P φ ρ (.int i t) (.int i)
 |str (s:Str) (t:Tok) (h:s.length<=1000):VR P φ ρ (.str s t) (.str s)
 |ref {i:Nat} {p:Addr × Option Addr} (h:ρ[i]? = some p):VR P φ ρ (.ref p.1) (.ref i)
 |lst {a:Addr} {xs:Array Value} {n:Nat} {l:List V} (h:φ a=some (Ba xs n)) (hl:AV P φ ρ xs.toList l) (hn:l.length<=1000):VR P φ ρ (.ref a) (.lst l)
 |tup {a:Addr} {xs:Array Value} {n:Nat} {l:List V} (h:φ a=some (E8 xs n)) (hl:AV P φ ρ xs.toList l) (hn:l.length<=1000):VR P φ ρ (.ref a) (.tup l)
 |dct {a:Addr} {o:Obj} {es:Array DictEntry} {n:Nat} {l:List (Str × V)} (h:φ a=some o) (hc:o.cls = .type "dict") (hd:o.data = .dict es n) (hl:Az P φ ρ es.toList l):VR P φ ρ (.ref a) (.dct l)
 |rng {a:Addr} {n:Nat} {t u x:Tok} (h:φ a=some {cls:=.type "range",data:=.fields #[.int 0 t,.int n u,.int 1 x]}) (hn:n<=1000):VR P φ ρ (.ref a) (.rng n)
 |vals {a b:Addr} {i:Nat} (h:φ a=some {cls:=.type "dict_values",data:=.fields #[.ref b]}) (hi:ρ[i]? = some (b,.none)):VR P φ ρ (.ref a) (.vals i)
 |glob (a:Nat):VR P φ ρ (.ref a) (.glob a)
 |bi (id:String) (h:handedIn (.builtin id)=true):VR P φ ρ (.builtin id) (.bi id)
 |ty (n:String):VR P φ ρ (.type n) (.ty n)
 |app {a b:Addr} {i:Nat} (h:φ a=some {cls:=.type "builtin_function_or_method",data:=.fields #[.builtin "list.append",.ref b]}) (hi:ρ[i]? = some (b,.none)):VR P φ ρ (.ref a) (.bm "append" i)
 |nxt {a b:Addr} {i:Nat} (h:φ a=some {cls:=.type "method-wrapper",data:=.fields #[.builtin "list_iterator.__next__",.ref b]}) (hi:ρ[i]? = some (b,.none)):VR P φ ρ (.ref a) (.bm "__next__" i)
inductive AV (P:Params) (φ:Fz) (ρ:AZ):List Value->List V->Prop
 |nil:AV P φ ρ [] []
 |cons {v:Value} {x:V} {vs:List Value} {xs:List V} (h:VR P φ ρ v x) (t:AV P φ ρ vs xs):AV P φ ρ (v::vs) (x::xs)
inductive Az (P:Params) (φ:Fz) (ρ:AZ):List DictEntry->List (Str × V)->Prop
 |nil:Az P φ ρ [] []
 |cons {v:Value} {x:V} {k:Str} {t:Tok} {vs:List DictEntry} {xs:List (Str × V)} (hk:k.length<=1000) (h:VR P φ ρ v x) (r:Az P φ ρ vs xs):Az P φ ρ (⟨PyData.keyHash P k,.str k t,v⟩::vs) ((k,x)::xs)
end
def Le (φ AE:Fz):Prop:=∀a o,φ a=some o->AE a=some o
def Pf (ρ ρ':AZ):Prop:=∃τ,ρ'=ρ++τ
theorem Le.refl (φ:Fz):Le φ φ:=fun _ _ h=>h
theorem Le.trans {a b c:Fz} (x:Le a b) (y:Le b c):Le a c:=fun _ _ h=>y _ _ (x _ _ h)
theorem Pf.refl (ρ:AZ):Pf ρ ρ:=⟨[],by simp⟩
theorem Pf.trans (x:Pf a b) (y:Pf b c):Pf a c:=by
 obtain ⟨t,rfl⟩:=x;obtain ⟨u,rfl⟩:=y;exact ⟨t++u,by simp⟩
theorem Pf.get (x:Pf ρ ρ') (h:ρ[i]? = some p):ρ'[i]? = some p:=by
 obtain ⟨t,rfl⟩:=x
 rw [bw (List.getElem?_eq_some_iff.mp h).1];exact h
theorem VR.mono (l:Le φ AE) (q:Pf ρ ρ') {v:Value} {x:V}:VR P φ ρ v x->VR P AE ρ' v x:=
 VR.rec (motive_1:=fun v x _=>VR P AE ρ' v x) (motive_2:=fun v x _=>AV P AE ρ' v x) (motive_3:=fun v x _=>Az P AE ρ' v x)
  .none (fun b=>.bool b) (fun i t=>.int i t) (fun s t h=>.str s t h) (fun h=>.ref (q.get h)) (fun h _ hn hl=>.lst (l _ _ h) hl hn) (fun h _ hn hl=>.tup (l _ _ h) hl hn) (fun h hc hd _ hl=>.dct (l _ _ h) hc hd hl)
  (fun h hn=>.rng (l _ _ h) hn) (fun h hi=>.vals (l _ _ h) (q.get hi)) (fun a=>.glob a) (fun id h=>.bi id h) (fun n=>.ty n) (fun h hi=>.app (l _ _ h) (q.get hi)) (fun h hi=>.nxt (l _ _ h) (q.get hi))
  .nil (fun _ _ a b=>.cons a b) .nil (fun hk _ _ a b=>.cons hk a b)
theorem AV.mono (l:Le φ AE) (q:Pf ρ ρ') {v:List Value} {x:List V}:AV P φ ρ v x->AV P AE ρ' v x:=
 AV.rec (motive_1:=fun v x _=>VR P AE ρ' v x) (motive_2:=fun v x _=>AV P AE ρ' v x) (motive_3:=fun v x _=>Az P AE ρ' v x)
  .none (fun b=>.bool b) (fun i t=>.int i t) (fun s t h=>.str s t h) (fun h=>.ref (q.get h)) (fun h _ hn hl=>.lst (l _ _ h) hl hn) (fun h _ hn hl=>.tup (l _ _ h) hl hn) (fun h hc hd _ hl=>.dct (l _ _ h) hc hd hl)
  (fun h hn=>.rng (l _ _ h) hn) (fun h hi=>.vals (l _ _ h) (q.get hi)) (fun a=>.glob a) (fun id h=>.bi id h) (fun n=>.ty n) (fun h hi=>.app (l _ _ h) (q.get hi)) (fun h hi=>.nxt (l _ _ h) (q.get hi))
  .nil (fun _ _ a b=>.cons a b) .nil (fun hk _ _ a b=>.cons hk a b)
theorem Az.mono (l:Le φ AE) (q:Pf ρ ρ'):Az P φ ρ v x->Az P AE ρ' v x:=
 Az.rec (motive_1:=fun v x _=>VR P AE ρ' v x) (motive_2:=fun v x _=>AV P AE ρ' v x) (motive_3:=fun v x _=>Az P AE ρ' v x)
  .none (fun b=>.bool b) (fun i t=>.int i t) (fun s t h=>.str s t h) (fun h=>.ref (q.get h)) (fun h _ hn hl=>.lst (l _ _ h) hl hn) (fun h _ hn hl=>.tup (l _ _ h) hl hn) (fun h hc hd _ hl=>.dct (l _ _ h) hc hd hl)
  (fun h hn=>.rng (l _ _ h) hn) (fun h hi=>.vals (l _ _ h) (q.get hi)) (fun a=>.glob a) (fun id h=>.bi id h) (fun n=>.ty n) (fun h hi=>.app (l _ _ h) (q.get hi)) (fun h hi=>.nxt (l _ _ h) (q.get hi))
  .nil (fun _ _ a b=>.cons a b) .nil (fun hk _ _ a b=>.cons hk a b)
end
section
open PySem PySem.W PyProof.Rows
variable (P:Params) (φ:Fz) (ρ:AZ) (v:Value)
inductive RB (l:List V):Prop
 |mk (a:Addr) (xs:Array Value) (n:Nat) (f:φ a=some (Ba xs n)) (r:AV P φ ρ xs.toList l) (e:v = .ref a)
inductive RJ (l:List V):Prop
 |mk (a:Addr) (xs:Array Value) (n:Nat) (f:φ a=some (E8 xs n)) (r:AV P φ ρ xs.toList l) (e:v = .ref a)
inductive Q4 (l:List (Str × V)):Prop
 |mk (a:Addr) (o:Obj) (es:Array DictEntry) (n:Nat) (f:φ a=some o) (c:o.cls = .type "dict") (d:o.data = .dict es n) (r:Az P φ ρ es.toList l) (e:v = .ref a)
inductive RK (i:Nat):Prop
 |mk (a b:Addr) (f:φ a=some {cls:=.type "dict_values",data:=.fields #[.ref b]}) (r:ρ[i]? = some (b,.none)) (e:v = .ref a)
end
section
open PySem PySem.W PyProof.Rows
variable {P:Params} {φ:Fz} {ρ:AZ} {v:Value} {x:V} {b:Bool} {s:Str} {i n a:Nat} {l:List V} {vs:List Value} {es:List DictEntry} {p:Str × V}
def XW (P:Params) (φ:Fz) (ρ:AZ) (v:Value):V->Prop
 | .none=>v = .none
 | .bool b=>v = .bool b
 | .int i=>∃t,v = .int i t
 | .str s=>s.length<=1000/\∃t,v = .str s t
 | .ref i=>∃p,ρ[i]? = some p/\v = .ref p.1
 | .lst l=>l.length<=1000/\RB P φ ρ v l
 | .tup l=>l.length<=1000/\RJ P φ ρ v l
 | .dct l=>Q4 P φ ρ v l
 | .rng n=>n<=1000/\∃a t u x,φ a=some {cls:=.type "range",data:=.fields #[.int 0 t,.int n u,.int 1 x]}/\v = .ref a
 | .vals i=>RK φ ρ v i
 | .glob a=>v = .ref a
 | .bi id=>handedIn (.builtin id)=true/\v = .builtin id
 | .ty n=>v = .type n
 | .bm id i=>(id = "append"/\∃a b,φ a=some {cls:=.type "builtin_function_or_method",data:=.fields #[.builtin "list.append",.ref b]}/\ρ[i]? = some (b,.none)/\v = .ref a)\/
   (id = "__next__"/\∃a b,φ a=some {cls:=.type "method-wrapper",data:=.fields #[.builtin "list_iterator.__next__",.ref b]}/\ρ[i]? = some (b,.none)/\v = .ref a)
theorem VR.inv (h:VR P φ ρ v x):XW P φ ρ v x:=by
 cases h with
 |none=>exact rfl
 |bool b=>exact rfl
 |int i t=>exact ⟨t,rfl⟩
 |str s t h=>exact ⟨h,t,rfl⟩
 |ref h=>exact ⟨_,h,rfl⟩
 |lst h hl hn=>exact ⟨hn,_,_,_,h,hl,rfl⟩
 |tup h hl hn=>exact ⟨hn,_,_,_,h,hl,rfl⟩
 |dct h hc hd hl=>exact ⟨_,_,_,_,h,hc,hd,hl,rfl⟩
 |rng h hn=>exact ⟨hn,_,_,_,_,h,rfl⟩
 |vals h hi=>exact ⟨_,_,h,hi,rfl⟩
 |glob a=>exact rfl
 |bi id h=>exact ⟨h,rfl⟩
 |ty n=>exact rfl
 |app h hi=>exact .inl ⟨rfl,_,_,h,hi,rfl⟩
 |nxt h hi=>exact .inr ⟨rfl,_,_,h,hi,rfl⟩
theorem VR.none_inv (h:VR P φ ρ v .none):v = .none:=h.inv
theorem VR.F4 (h:VR P φ ρ v (.bool b)):v = .bool b:=h.inv
theorem VR.B3 {i:Int} (h:VR P φ ρ v (.int i)):∃t,v = .int i t:=h.inv
theorem VR.Bw (h:VR P φ ρ v (.str s)):∃t,v = .str s t:=h.inv.2
theorem VR.I6 (h:VR P φ ρ v (.str s)):s.length<=1000:=h.inv.1
theorem VR.C8 (h:VR P φ ρ v (.ref i)):∃p,ρ[i]? = some p/\v = .ref p.1:=h.inv
theorem VR.Fb (h:VR P φ ρ v (.lst l)):RB P φ ρ v l:=h.inv.2
theorem VR.Iq (h:VR P φ ρ v (.lst l)):l.length<=1000:=h.inv.1
theorem VR.E9 (h:VR P φ ρ v (.tup l)):RJ P φ ρ v l:=h.inv.2
theorem VR.J9 (h:VR P φ ρ v (.tup l)):l.length<=1000:=h.inv.1
theorem VR.R2 {l:List (Str × V)} (h:VR P φ ρ v (.dct l)):Q4 P φ ρ v l:=h.inv
theorem VR.pL (h:VR P φ ρ v (.rng n)):∃a t u x,φ a=some {cls:=.type "range",data:=.fields #[.int 0 t,.int n u,.int 1 x]}/\v = .ref a:=h.inv.2
theorem VR.VH (h:VR P φ ρ v (.rng n)):n<=1000:=h.inv.1
theorem VR.Qv (h:VR P φ ρ v (.vals i)):RK φ ρ v i:=h.inv
theorem VR.Nm {id:String} (h:VR P φ ρ v (.bm id i)):(id = "append"/\∃a b,φ a=some {cls:=.type "builtin_function_or_method",data:=.fields #[.builtin "list.append",.ref b]}/\ρ[i]? = some (b,.none)/\v = .ref a)\/
   (id = "__next__"/\∃a b,φ a=some {cls:=.type "method-wrapper",data:=.fields #[.builtin "list_iterator.__next__",.ref b]}/\ρ[i]? = some (b,.none)/\v = .ref a):=h.inv
theorem VR.Ib (h:VR P φ ρ v (.glob a)):v = .ref a:=h.inv
theorem VR.Nl {id:String} (h:VR P φ ρ v (.bi id)):v = .builtin id:=h.inv.2
theorem VR.I9 {n:String} (h:VR P φ ρ v (.ty n)):v = .type n:=h.inv
def XX (P:Params) (φ:Fz) (ρ:AZ) (vs:List Value):List V->Prop
 | []=>vs=[]
 |x::xs=>∃u us,VR P φ ρ u x/\AV P φ ρ us xs/\vs=u::us
theorem AV.inv (h:AV P φ ρ vs l):XX P φ ρ vs l:=by
 cases h with
 |nil=>exact rfl
 |cons a b=>exact ⟨_,_,a,b,rfl⟩
def W6 (P:Params) (φ:Fz) (ρ:AZ) (es:List DictEntry):List (Str × V)->Prop
 | []=>es=[]
 |p::l=>∃v t r,p.1.length<=1000/\VR P φ ρ v p.2/\Az P φ ρ r l/\es=⟨PyData.keyHash P p.1,.str p.1 t,v⟩::r
theorem Az.inv {l:List (Str × V)} (h:Az P φ ρ es l):W6 P φ ρ es l:=by
 cases h with
 |nil=>exact rfl
 |cons a b c=>exact ⟨_,_,_,a,b,c,rfl⟩
theorem Az.Co (h:Az P φ ρ es []):es=[]:=h.inv
theorem Az.Bx {l:List (Str × V)} (h:Az P φ ρ es (p::l)):∃v t r,p.1.length<=1000/\VR P φ ρ v p.2/\Az P φ ρ r l/\es=⟨PyData.keyHash P p.1,.str p.1 t,v⟩::r:=h.inv
theorem AV.Co (h:AV P φ ρ vs []):vs=[]:=h.inv
theorem AV.Bx (h:AV P φ ρ vs (x::l)):∃u us,VR P φ ρ u x/\AV P φ ρ us l/\vs=u::us:=h.inv
noncomputable def Hu:Addr:=81
noncomputable def Qd:Addr:=178
def G0 (P:Params) (φ:Fz) (ρ:AZ):Option Value->Option V->Prop
 |some v,some x=>VR P φ ρ v x
 |none,.none=>True
 |_,_=>False
def slotR (P:Params) (φ:Fz) (ρ:AZ):Option Value->Option V->Prop
 |some v,some x=>VR P φ ρ v x
 |none,.none=>True
 |_,_=>False
end
section
open PySem PySem.W PyProof.Rows
variable (AB:Program) (w:World) (φ:Fz) (ρ:AZ) (h:Heap) (p:Addr × Option Addr)
inductive XK (l:List V):Prop
 |mk (z:p.2=none) (hn:l.length<=1000) (xs:Array Value) (n:Nat) (e:h.get? p.1=some (Ba xs n)) (r:AV w.params φ ρ xs.toList l)
inductive W0 (l:List (Str × V)) (cl:Bool):Prop
 |mk (z:p.2=none) (hn:l.length<=1000) (nd:(l.map (·.1)).Nodup) (es:Array DictEntry) (n:Nat) (e:h.get? p.1=some (HW es n)) (c:cl=true->n=l.length) (r:Az w.params φ ρ es.toList l)
inductive XR (l:List Str):Prop
 |mk (z:p.2=none) (hn:l.length<=1000) (r:h.SetOf (PySem.strKind AB w) p.1 (fun k=>l.contains k) l.length)
inductive XF (l:Loc):Prop
 |mk (hn:l.length<=100) (d:Addr) (m:Str->Option Value) (e:p.2=some d) (e1:h.get? p.1=some (instObj Qd d)) (e2:h.Ns1 d m) (r:∀a,G0 w.params φ ρ (m a) (AN a l))
inductive XO (a b c:Option V):Prop
 |mk (d:Addr) (sl:Array (Option Value)) (e:p.2=some d) (e1:h.get? p.1=some {cls:=.ref Hu,dict:=some d,slots:=sl}) (e2:h.get? d=some (HW #[] 0))
   (r0:slotR w.params φ ρ (sl.getD 0 none) a) (r1:slotR w.params φ ρ (sl.getD 1 none) b) (r2:slotR w.params φ ρ (sl.getD 2 none) c)
inductive XH (i k:Nat):Prop
 |mk (z:p.2=none) (q:Addr) (e:ρ[i]? = some (q,none)) (r:h.get? p.1=some {cls:=.type "list_iterator",data:=.fields #[.ref q,.int k 0]})
end
section
open PySem PySem.W PyProof.Rows
variable {h h' AS AH:Heap} {b:Addr} {o:Obj} {α:Type} {A:Around} {φ AE:Fz} {ρ ρ':AZ} {Z:List Addr} {hd:Nat} {AB:Program} {w:World} {AA:Env} {st st':S} {e:Value} {c:String} {x:Option α} {a:α}
def OR (AB:Program) (w:World) (φ:Fz) (ρ:AZ) (h:Heap) (p:Addr × Option Addr):O->Prop
 | .list l=>XK w φ ρ h p l
 | .dict l cl=>W0 w φ ρ h p l cl
 | .set l=>XR AB w h p l
 | .inst l=>XF w φ ρ h p l
 | .node a b c=>XO w φ ρ h p a b c
 | .iter i k=>XH ρ h p i k
 | .obj=>p.2=none/\h.get? p.1=some {cls:=.type "object"}
 | .gone=>p.2=none
 | .tab=>p.2=none/\∃vs,h.get? p.1=some {cls:=.none,data:=.fields vs}/\TriplesOk vs.toList
structure Rel (AB:Program) (w:World) (φ:Fz) (ρ:AZ) (H:List O) (h:Heap):Prop where
 fz:∀a o,φ a=some o->h.get? a=some o
 len:ρ.length=H.length
 ob:∀(i:Nat) (o:O) (p:Addr × Option Addr),H[i]? = some o->ρ[i]? = some p->OR AB w φ ρ h p o
 nd:(Aa ρ).Nodup
 ap:∀a∈Aa ρ,φ a=none
 th:∀a∈Aa ρ,h.get? a≠none
inductive Ws (P:Params) (φ:Fz) (ρ:AZ) (AA:Env) (Z:List Addr) (F:Loc) (K:Sc) (h:Heap) (x:Str):Prop
 |mk (c:Addr) (ov:Option Value) (a1:AA.cells.lookup x=some c) (a2:h.IsCell c ov) (a3:∀v,AN x F=some v->∃rv,ov=some rv/\VR P φ ρ rv v) (a4:c∉Aa ρ) (a5:φ c=none) (a6:c≠AA.locals/\(K.lookup x=some .cell->c∈Z)/\(K.lookup x=some .free->c∉Z))
structure ER (P:Params) (φ:Fz) (ρ:AZ) (AA:Env) (Z:List Addr) (st:S) (h:Heap):Prop where
 kind:AA.scope.kind = .function
 gl:AA.globals=mainGlobals
 bl:AA.builtins=builtinsNs
 cd:GH st.sc=true->AA.code = .ref 61
 kl:∀x,st.sc.lookup x=some .local->AA.kindOf x=some .local
 kc:∀x,st.sc.lookup x=some .cell->AA.kindOf x=some .cell
 kf:∀x,st.sc.lookup x=some .free->AA.kindOf x=some .cell\/AA.kindOf x=some .free
 kg:∀x,st.sc.lookup x=some .globalImplicit->AA.kindOf x=some .globalImplicit
 ns:∃m,h.Ns AA.locals m/\∀x v,st.sc.lookup x=some .local->AN x st.AA=some v->∃rv,m x=some rv/\VR P φ ρ rv v
 ce:∀x,(st.sc.lookup x=some .cell\/st.sc.lookup x=some .free)->Ws P φ ρ AA Z st.AA st.sc h x
 inj:∀x y c,st.sc.lookup x=some .cell->st.sc.lookup y=some .cell->AA.cells.lookup x=some c->AA.cells.lookup y=some c->x=y
 zl:AA.locals∈Z
 zr:∀a∈Z,a∉Aa ρ/\φ a=none/\h.get? a≠none
def Kept (h:Heap) (b:Addr) (o:Obj):Prop:=h.get? b=some o\/(∃es n,o.data = .dict es n)/\∃sl,h.get? b=some {o with slots:=sl}
theorem Kept.slots {h:Heap} {b:Addr} {o:Obj} (x:Kept h b o):∃sl,h.get? b=some {o with slots:=sl}:=by
 rcases x with x | ⟨_,x⟩
 .exact ⟨o.slots,x⟩
 .exact x
theorem Kept.exact (x:Kept h b o) (n:∀es n,o.data≠.dict es n):h.get? b=some o:=by
 rcases x with x | ⟨⟨es,k,x⟩,_⟩
 .exact x
 .exact absurd x (n es k)
structure Ext (φ:Fz) (ρ:AZ) (h:Heap) (Z:List Addr) (AE:Fz) (ρ':AZ) (h':Heap):Prop where
 le:Le φ AE
 pf:Pf ρ ρ'
 newF:∀a o,AE a=some o->φ a=none->h.get? a=none
 newR:∀a∈Aa ρ',a∉Aa ρ->h.get? a=none
 live:∀a,h.get? a≠none->h'.get? a≠none
 keep:∀b o,h.get? b=some o->b∉Aa ρ->b∉Z->Kept h' b o
theorem A8 (h:x=some a):x≠none:=by rw [h];exact fun q=>by cases q
theorem Ext.refl (φ:Fz) (ρ:AZ) (h:Heap) (Z:List Addr):Ext φ ρ h Z φ ρ h:=
 ⟨Le.refl _,Pf.refl _,fun _ _ x y=>(by rw [y] at x;cases x),fun _ x y=>absurd x y,fun _ x=>x,fun _ o e _ _=>.inl e⟩
theorem Ext.trans {φ AE CC:Fz} {ρ ρ' CP:AZ} {h h' Ax:Heap} {Z:List Addr} (x:Ext φ ρ h Z AE ρ' h') (y:Ext AE ρ' h' Z CC CP Ax):Ext φ ρ h Z CC CP Ax:=by
 have back:∀a,h'.get? a=none->h.get? a=none:=fun a e=>Classical.byContradiction fun n=>x.live a n e
 refine ⟨x.le.trans y.le,x.pf.trans y.pf,fun a o e n=>?_,fun a m n=>?_,fun a q=>y.live a (x.live a q),fun b o e n z=>?_⟩
 .induction q:AE a using oc with
  |none=>exact back a (y.newF a o e q)
  |some o'=>exact x.newF a o' q n
 .by_cases q:a∈Aa ρ'
  .exact x.newR a q n
  .exact back a (y.newR a m q)
 .have off:b∉Aa ρ':=fun q=>A8 e (x.newR b q n)
  rcases x.keep b o e n z with e' | ⟨d,sl,e'⟩
  .exact y.keep b _ e' off z
  .obtain ⟨LN,OF⟩:=(y.keep b _ e' off z).slots
   exact .inr ⟨d,LN,OF⟩
inductive NV (φ:Fz) (ρ:AZ) (h:Heap) (e:Env):Prop
 |mk (L:Addr) (o:Obj) (a1:e.frame=some L) (a2:h.get? L=some o) (a3:∃es n,o.data = .dict es n) (a4:L∉Aa ρ) (a5:φ L=none)
inductive Lf (A:Around) (φ:Fz) (ρ:AZ) (Z:List Addr) (h:Heap):Prop
 |mk (x:Addr) (ox:Obj) (vs:Array Value) (a1:A.handled=some (.ref x)) (a2:h.get? x=some ox) (a3:ox.data = .fields vs) (a4:vs[2]? = some .none) (a5:x∉Aa ρ) (a6:φ x=none) (a7:x∉Z)
structure Fy (A:Around) (φ:Fz) (ρ:AZ) (Z:List Addr) (hd:Nat) (h:Heap):Prop where
 fr:∃l,A.frames=some l/\∀e∈l,e.scope.kind≠.module/\NV φ ρ h e
 hd:(hd=0->A.handled=none)/\(hd=1->Lf A φ ρ Z h)
 un:A.units+100<cLine
theorem Fy.after (X:Fy A φ ρ Z hd h) (Y:Ext φ ρ h Z AE ρ' h')
  (hz:∀b∈Z,∀o es n,h.get? b=some o->o.data = .dict es n->∃o' es n,h'.get? b=some o'/\o'.data = .dict es n):Fy A AE ρ' Z hd h':=by
 have off:∀a,h.get? a≠none->a∉Aa ρ->φ a=none->a∉Aa ρ'/\AE a=none:=fun a ha hn hp=>by
  refine ⟨fun hm=>ha (Y.newR a hm hn),?_⟩
  induction e:AE a using oc with
  |none=>rfl
  |some o=>exact absurd (Y.newF a o e hp) ha
 refine ⟨?_,⟨X.hd.1,fun q=>?_⟩,X.un⟩
 .obtain ⟨l,e,r⟩:=X.fr
  refine ⟨l,e,fun x hx=>⟨(r x hx).1,?_⟩⟩
  obtain ⟨L,o,a1,a2,⟨es,n,a3⟩,a4,a5⟩:=(r x hx).2
  obtain ⟨z1,z2⟩:=off L (A8 a2) a4 a5
  by_cases q:L∈Z
  .obtain ⟨o',DH,n',b1,b2⟩:=hz L q o es n a2 a3
   exact ⟨L,o',a1,b1,⟨DH,n',b2⟩,z1,z2⟩
  .obtain ⟨sl,b1⟩:=(Y.keep L o a2 a4 q).slots
   exact ⟨L,_,a1,b1,⟨es,n,a3⟩,z1,z2⟩
 .obtain ⟨x,ox,vs,a1,a2,a3,a4,a5,a6,a7⟩:=X.hd.2 q
  obtain ⟨z1,z2⟩:=off x (A8 a2) a5 a6
  obtain ⟨sl,b1⟩:=(Y.keep x ox a2 a5 a7).slots
  exact ⟨x,_,vs,a1,b1,a3,a4,z1,z2,a7⟩
structure Al (AB:Program) (w:World) (A:Around) (AA:Env) (Z:List Addr) (φ:Fz) (ρ:AZ) (st:S) (h:Heap) (AE:Fz) (ρ':AZ) (st':S) (h':Heap):Prop where
 rel:Rel AB w AE ρ' st'.hp h'
 er:ER w.params AE ρ' AA Z st' h'
 amb:Fy A AE ρ' Z st'.hd h'
 ext:Ext φ ρ h Z AE ρ' h'
 lo:st'.lo=st.lo
 sc:st'.sc=st.sc
 hd:st'.hd=st.hd
 pre:st'.hp.take st.lo=st.hp.take st.lo
theorem Al.trans {AB:Program} {w:World} {A:Around} {AA:Env} {Z:List Addr} {φ AE CC:Fz} {ρ ρ' CP:AZ} {st st' Cw:S} {h h' Ax:Heap}
  (x:Al AB w A AA Z φ ρ st h AE ρ' st' h') (y:Al AB w A AA Z AE ρ' st' h' CC CP Cw Ax):Al AB w A AA Z φ ρ st h CC CP Cw Ax:=
 ⟨y.rel,y.er,y.amb,x.ext.trans y.ext,y.lo.trans x.lo,y.sc.trans x.sc,y.hd.trans x.hd,by rw [<-x.lo,y.pre,x.lo,x.pre]⟩
theorem Al.lo_le
  (x:Al AB w A AA Z φ ρ st h AE ρ' st' h') (l:st.lo<=st.hp.length):st'.lo<=st'.hp.length:=by
 have e:=congrArg List.length x.pre
 rw [List.length_take,List.length_take] at e
 rw [x.lo]
 lia
theorem Al.refl {AB:Program} {w:World} {A:Around} {AA:Env} {Z:List Addr} {φ:Fz} {ρ:AZ} {st:S} {h:Heap} (R:Rel AB w φ ρ st.hp h) (E:ER w.params φ ρ AA Z st h) (X:Fy A φ ρ Z st.hd h) :
  Al AB w A AA Z φ ρ st h φ ρ st h:=⟨R,E,X,Ext.refl ..,rfl,rfl,rfl,rfl⟩
structure Tab (st:S) (ρ:AZ):Prop where
 lo:1<=st.lo
 hp:st.hp[0]? = some .tab
 at_:ρ[0]? = some (57,none)
theorem Al.tabs
  (x:Al AB w A AA Z φ ρ st h AE ρ' st' h') (t:Tab st ρ):Tab st' ρ':=by
 refine ⟨by rw [x.lo];exact t.lo,?_,x.ext.pf.get t.at_⟩
 have e:=congrArg (fun l=>l[0]?) x.pre
 simp only [List.getElem?_take] at e
 rw [ak (show 0<st.lo from t.lo),ak (show 0<st.lo from t.lo),t.hp] at e
 exact e
noncomputable def Et (c:String):Value:=if c = "CycleError" then .ref 96 else if c = "IndexError*" then .type "IndexError" else .type c
inductive XT (AA:Env) (AS:Heap) (φ:Fz) (ρ:AZ) (h:Heap) (a:Addr) (v:Option Value):Prop
 |mk (T:Addr) (oT:Obj) (ts:Array Value) (fl:Value) (f1:v=some (.ref T)) (f2:AS.get? T=none) (f3:T≠a) (f4:T∉Aa ρ) (f5:φ T=none) (f6:h.get? T=some oT) (f7:oT.data = .fields ts) (f8:ts[3]? = some fl) (f9:fl = .none\/∃L,AA.frame=some L/\fl=rawInt L)
inductive Em (AA:Env) (AS:Heap) (φ:Fz) (ρ:AZ) (h:Heap) (e:Value) (c:String):Prop
 |mk (a:Addr) (ob:Obj) (vs:Array Value) (e1:e = .ref a) (e2:AS.get? a=none) (e3:a∉Aa ρ) (e4:φ a=none) (e5:h.get? a=some ob) (e6:ob.cls=Et c) (e7:ob.data = .fields vs) (e8:2<vs.size) (e9:c≠"IndexError*"->vs[2]? = some .none) (r:vs[1]? = some .none\/XT AA AS φ ρ h a vs[1]?)
theorem Em.le (l:∀a,AS.get? a≠none->AH.get? a≠none) (x:Em AA AH φ ρ h e c):Em AA AS φ ρ h e c:=by
 have back:∀a,AH.get? a=none->AS.get? a=none:=fun a e=>Classical.byContradiction fun n=>l a n e
 obtain ⟨a,ob,vs,e1,e2,e3,e4,e5,e6,e7,e8,e9,r⟩:=x
 refine ⟨a,ob,vs,e1,back _ e2,e3,e4,e5,e6,e7,e8,e9,?_⟩
 rcases r with r | ⟨T,oT,ts,fl,f1,f2,f3,f4,f5,f6,f7,f8,f9⟩
 .exact .inl r
 .exact .inr ⟨T,oT,ts,fl,f1,back _ f2,f3,f4,f5,f6,f7,f8,f9⟩
end
section
open PySem PySem.W PyProof.Rows PySem.Calls
variable {AB:Program} {w:World} {φ AE:Fz} {ρ:AZ} {H:List O} {h:Heap} {a:Addr} {m:Str->Option Value}
def Gb (φ:Fz) (a:Addr) (m:Str->Option Value):Prop:=∃o es ep,φ a=some o/\o.data = .dict es ep/\StrKeys es/\∀name,nsFind es name=m name
theorem Gb.ns (R:Rel AB w φ ρ H h) (x:Gb φ a m):h.Ns a m:=by
 obtain ⟨o,es,ep,e,d,k,n⟩:=x;exact ⟨o,es,ep,R.fz _ _ e,d,k,n⟩
theorem Gb.mono (l:Le φ AE) (x:Gb φ a m):Gb AE a m:=by
 obtain ⟨o,es,ep,e,d,k,n⟩:=x;exact ⟨o,es,ep,l _ _ e,d,k,n⟩
noncomputable def Qm (mg mb:Str->Option Value) (x:Str):Option Value:=match mg x with
 |some v=>some v
 |none=>mb x
inductive KD (φ:Fz):Prop
 |mk {nm q N bs bm hdct sn sub ab col dd k0 k1 k2 k3 k5 newId initId mN} (x1:ExcBaseFacts "ValueError" newId initId bm) (x2:φ 96=some (excClassObj nm q 96 N bs bm hdct sn sub ab col dd k0 k1 k2 k3 k5 newId)) (x3:Gb φ N mN) (x4:mN "__init__" = none)
theorem KD.mono {φ AE:Fz} (l:Le φ AE) (c:KD φ):KD AE:=by
 cases c with
 |mk x1 x2 x3 x4=>exact ⟨x1,l _ _ x2,x3.mono l,x4⟩
structure Glob (P:Params) (φ:Fz):Prop where
 kk:∀a o,(KK P).lookup a=some o->φ a=some o
 names:∃mg mb,Gb φ mainGlobals mg/\Gb φ builtinsNs mb/\∀x v,AN x Df=some v->∃rv,Qm mg mb x=some rv/\∀ψ ρ,VR P ψ ρ rv v
 sm:∃o,φ sysModules=some o
 cyc:KD φ
theorem Glob.mono {P:Params} {φ AE:Fz} (l:Le φ AE) (G:Glob P φ):Glob P AE:=by
 obtain ⟨mg,mb,a,b,c⟩:=G.names
 obtain ⟨o,e⟩:=G.sm
 exact ⟨fun a o e=>l _ _ (G.kk a o e),⟨mg,mb,a.mono l,b.mono l,c⟩,⟨o,l _ _ e⟩,G.cyc.mono l⟩
end
section
open PySem PySem.W PyProof.Rows PySem.Calls
variable (AB:Program) (w:World) (A:Around) (AA:Env)
structure Ar {α β:Type} (C:Fz->AZ->β->α->Prop) (Z:List Addr) (φ:Fz) (ρ:AZ) (st:S) (s:Shared) (o:Option (Out α)) (Q:β->Shared->Prop) (E:Value->Shared->Prop):Prop where
 ne:o≠none
 ok:∀x st',o=some (.ok x st')->∀rv AE ρ' h' tk,C AE ρ' rv x->Al AB w A AA Z φ ρ st s.heap AE ρ' st' h'->Q rv {s with heap:=h',toks:=tk}
 ex:∀c st',o=some (.ex c st')->∀e AE ρ' h' tk,Em AA s.heap AE ρ' h' e c->Al AB w A AA Z φ ρ st s.heap AE ρ' st' h'->E e {s with heap:=h',toks:=tk}
noncomputable abbrev As:=Ar AB w A AA (VR w.params)
structure BK {α:Type} (Z:List Addr) (φ:Fz) (ρ:AZ) (st:S) (s:Shared) (o:Option (Out α)) (Q:α->Shared->Prop) (E:Value->Shared->Prop):Prop where
 ne:o≠none
 ok:∀x st',o=some (.ok x st')->∀AE ρ' h' tk,Al AB w A AA Z φ ρ st s.heap AE ρ' st' h'->Q x {s with heap:=h',toks:=tk}
 ex:∀c st',o=some (.ex c st')->∀e AE ρ' h' tk,Em AA s.heap AE ρ' h' e c->Al AB w A AA Z φ ρ st s.heap AE ρ' st' h'->E e {s with heap:=h',toks:=tk}
structure AK (Z:List Addr) (φ:Fz) (ρ:AZ) (st:S) (h:Heap):Prop where
 gl:Glob w.params φ
 rel:Rel AB w φ ρ st.hp h
 er:ER w.params φ ρ AA Z st h
 amb:Fy A φ ρ Z st.hd h
 lo:st.lo<=st.hp.length
 tb:Tab st ρ
def Di {α β:Type} (C:Fz->AZ->β->α->Prop) (t:Sem β) (st:S) (o:Option (Out α)):Prop:=
 ∀(φ:Fz) (ρ:AZ) (Z:List Addr) (s:Shared) (E:Value->Shared->Prop) (Q:β->Shared->Prop),AK AB w A AA Z φ ρ st s.heap->Ar AB w A AA C Z φ ρ st s o Q E->wpAny (model AB w) A t Q E s
noncomputable abbrev Au:=Di AB w A AA (VR w.params)
def Bm {α:Type} (t:Sem α) (st:S) (o:Option (Out α)):Prop:=
 ∀(φ:Fz) (ρ:AZ) (Z:List Addr) (s:Shared) (E:Value->Shared->Prop) (Q:α->Shared->Prop),AK AB w A AA Z φ ρ st s.heap->BK AB w A AA Z φ ρ st s o Q E->wpAny (model AB w) A t Q E s
end
section
open PySem PySem.W PyProof.Rows PySem.Calls
variable {AB:Program} {w:World} {A:Around} {AA:Env} {Z:List Addr} {φ AE:Fz} {ρ ρ':AZ} {st st':S} {s:Shared} {h' h:Heap} {E Q:Value->Shared->Prop} {α β γ δ:Type} {ih:Ih} {k i:Nat} {pos:Pos} {v:V} {e r:Expr} {g:Arguments × Expr × Scope × Pos} {es:List Expr} {c:Prop} {ob:O} {op:Operator} {p:Addr × Option Addr} {f:α->M γ} {m:M α} {a:α} {C:Fz->AZ->β->α->Prop} {o o':Option (Out α)} {D:Fz->AZ->δ->γ->Prop} {K:β->Shared->Prop} {t t':Sem α} {x:Option α} {P:α->Prop} {y:Option β} {l:List α} {b:β}
theorem BQ {m:M α} {f:α->M β} (h:m st=none):AD m f st=none:=by unfold AD;rw [h]
theorem Bu {m:M α} {f:α->M β} {c:String} (h:m st=some (.ex c st')):AD m f st=some (.ex c st'):=by unfold AD;rw [h]
theorem AJ {m:M α} {f:α->M β} (h:m st=some (.ok a st')):AD m f st=f a st':=by unfold AD;rw [h]
theorem Ar.after {Q:β->Shared->Prop} (N:Ar AB w A AA C Z φ ρ st s o Q E) (p:Al AB w A AA Z φ ρ st s.heap AE ρ' st' h') (tk:Nat):Ar AB w A AA C Z AE ρ' st' {s with heap:=h',toks:=tk} o Q E:=
 ⟨N.ne,fun x Cw e rv CC CP Ax CI v q=>N.ok x Cw e rv CC CP Ax CI v (p.trans q),fun c Cw e x CC CP Ax CI f q=>N.ex c Cw e x CC CP Ax CI (f.le p.ext.live) (p.trans q)⟩
theorem BK.after {Q:α->Shared->Prop} (N:BK AB w A AA Z φ ρ st s o Q E) (p:Al AB w A AA Z φ ρ st s.heap AE ρ' st' h') (tk:Nat):BK AB w A AA Z AE ρ' st' {s with heap:=h',toks:=tk} o Q E:=
 ⟨N.ne,fun x Cw e CC CP Ax CI q=>N.ok x Cw e CC CP Ax CI (p.trans q),fun c Cw e x CC CP Ax CI f q=>N.ex c Cw e x CC CP Ax CI (f.le p.ext.live) (p.trans q)⟩
theorem Ar.cast {Q:β->Shared->Prop} (N:Ar AB w A AA C Z φ ρ st s o Q E) (h:o=o'):Ar AB w A AA C Z φ ρ st s o' Q E:=h ▸ N
theorem BK.cast {Q:α->Shared->Prop} (N:BK AB w A AA Z φ ρ st s o Q E) (h:o=o'):BK AB w A AA Z φ ρ st s o' Q E:=h ▸ N
theorem Ar.pure {v:α} {rv:β} {Q:β->Shared->Prop} (N:Ar AB w A AA C Z φ ρ st s (AF v st) Q E) (H:AK AB w A AA Z φ ρ st s.heap) (hv:C φ ρ rv v) (tk:Nat):Q rv {s with toks:=tk}:=
 N.ok _ _ rfl rv φ ρ s.heap tk hv (.refl H.rel H.er H.amb)
theorem BK.pure {v:α} {Q:α->Shared->Prop} (N:BK AB w A AA Z φ ρ st s (AF v st) Q E) (H:AK AB w A AA Z φ ρ st s.heap) (tk:Nat):Q v {s with toks:=tk}:=
 N.ok _ _ rfl φ ρ s.heap tk (.refl H.rel H.er H.amb)
theorem AK.after (H:AK AB w A AA Z φ ρ st s.heap) (p:Al AB w A AA Z φ ρ st s.heap AE ρ' st' h'):AK AB w A AA Z AE ρ' st' h':=⟨H.gl.mono p.ext.le,p.rel,p.er,p.amb,p.lo_le H.lo,p.tabs H.tb⟩
theorem Di.BH {t:Sem β} {m:M α} {f:α->M γ} {Q:δ->Shared->Prop} (G:Di AB w A AA C t st (m st)) (H:AK AB w A AA Z φ ρ st s.heap)
  (N:Ar AB w A AA D Z φ ρ st s (AD m f st) Q E)
  (hk:∀x st' rv AE ρ' h' tk,C AE ρ' rv x->AK AB w A AA Z AE ρ' st' h'->Al AB w A AA Z φ ρ st s.heap AE ρ' st' h'->Ar AB w A AA D Z AE ρ' st' {s with heap:=h',toks:=tk} (f x st') Q E->K rv {s with heap:=h',toks:=tk}) :
  wpAny (model AB w) A t K E s:=
 G φ ρ Z s E K H ⟨fun q=>N.ne (BQ q),fun x st' q rv AE ρ' h' tk v p=>hk x st' rv AE ρ' h' tk v (H.after p) p ((N.after p tk).cast (AJ q)),fun c st' q e AE ρ' h' tk f' p=>N.ex c st' (Bu q) e AE ρ' h' tk f' p⟩
theorem Di.Fq {C:Fz->AZ->β->γ->Prop} {t:Sem β} {m:M γ} {f:γ->M α} {Q:α->Shared->Prop} (G:Di AB w A AA C t st (m st)) (H:AK AB w A AA Z φ ρ st s.heap)
  (N:BK AB w A AA Z φ ρ st s (AD m f st) Q E)
  (hk:∀x st' rv AE ρ' h' tk,C AE ρ' rv x->AK AB w A AA Z AE ρ' st' h'->Al AB w A AA Z φ ρ st s.heap AE ρ' st' h'->BK AB w A AA Z AE ρ' st' {s with heap:=h',toks:=tk} (f x st') Q E->K rv {s with heap:=h',toks:=tk}) :
  wpAny (model AB w) A t K E s:=
 G φ ρ Z s E K H ⟨fun q=>N.ne (BQ q),fun x st' q rv AE ρ' h' tk v p=>hk x st' rv AE ρ' h' tk v (H.after p) p ((N.after p tk).cast (AJ q)),fun c st' q e AE ρ' h' tk f' p=>N.ex c st' (Bu q) e AE ρ' h' tk f' p⟩
theorem Bm.BH {m:M α} {f:α->M γ} {Q:δ->Shared->Prop} {K:α->Shared->Prop} (G:Bm AB w A AA t st (m st)) (H:AK AB w A AA Z φ ρ st s.heap)
  (N:Ar AB w A AA D Z φ ρ st s (AD m f st) Q E)
  (hk:∀x st' AE ρ' h' tk,AK AB w A AA Z AE ρ' st' h'->Al AB w A AA Z φ ρ st s.heap AE ρ' st' h'->Ar AB w A AA D Z AE ρ' st' {s with heap:=h',toks:=tk} (f x st') Q E->K x {s with heap:=h',toks:=tk}) :
  wpAny (model AB w) A t K E s:=
 G φ ρ Z s E K H ⟨fun q=>N.ne (BQ q),fun x st' q AE ρ' h' tk p=>hk x st' AE ρ' h' tk (H.after p) p ((N.after p tk).cast (AJ q)),fun c st' q e AE ρ' h' tk f' p=>N.ex c st' (Bu q) e AE ρ' h' tk f' p⟩
theorem Bm.Fq {m:M α} {f:α->M β} {Q:β->Shared->Prop} {K:α->Shared->Prop} (G:Bm AB w A AA t st (m st)) (H:AK AB w A AA Z φ ρ st s.heap)
  (N:BK AB w A AA Z φ ρ st s (AD m f st) Q E)
  (hk:∀x st' AE ρ' h' tk,AK AB w A AA Z AE ρ' st' h'->Al AB w A AA Z φ ρ st s.heap AE ρ' st' h'->BK AB w A AA Z AE ρ' st' {s with heap:=h',toks:=tk} (f x st') Q E->K x {s with heap:=h',toks:=tk}) :
  wpAny (model AB w) A t K E s:=
 G φ ρ Z s E K H ⟨fun q=>N.ne (BQ q),fun x st' q AE ρ' h' tk p=>hk x st' AE ρ' h' tk (H.after p) p ((N.after p tk).cast (AJ q)),fun c st' q e AE ρ' h' tk f' p=>N.ex c st' (Bu q) e AE ρ' h' tk f' p⟩
theorem good_int {i:Int}:Au AB w A AA (eval (.Constant (.int i) k pos) AA) st (AF (.int i) st):=by
 intro φ ρ Z s E Q H N
 exact wpAny_Constant_int (N.pure H (.int i _) _)
theorem good_str {x:Str} (hx:x.length<=1000):Au AB w A AA (eval (.Constant (.str x) k pos) AA) st (AF (.str x) st):=by
 intro φ ρ Z s E Q H N
 exact wpAny_Constant_str (N.pure H (.str x _ hx) _)
theorem good_bool {b:Bool}:Au AB w A AA (eval (.Constant (.bool b) k pos) AA) st (AF (.bool b) st):=by
 intro φ ρ Z s E Q H N
 exact Constant_bool (N.pure H (.bool b) s.toks)
theorem good_none:Au AB w A AA (eval (.Constant .none k pos) AA) st (AF .none st):=by
 intro φ ρ Z s E Q H N
 exact Constant_none (N.pure H .none s.toks)
theorem G1 (h:none=some a):False:=by cases h
theorem nn {P:Prop} (h:none=some a):P:=(G1 h).elim
theorem NR {M:Model} {Q:α->Shared->Prop} (e:t=t') (h:wpAny M A t' Q E s):wpAny M A t Q E s:=e ▸ h
theorem Be {b:α} (h:x=some a) (h':x=some b):a=b:=aa (h.symm.trans h')
theorem LB {b:Addr} {o o':Obj} {es n vs} (e:h.get? b=some o) (d:o.data = .dict es n) (e':h.get? b=some o') (f:o'.data = .fields vs):False:=by
 cases Be e e'
 exact absurd (d.symm.trans f) (fun z=>by cases z)
theorem MW {x:Option V} {o:Out V} (h:(match x with | some v=>some (Out.ok v st) | .none=>.none)=some o):∃v,o = .ok v st/\x=some v:=by
 induction x using oc with
 |none=>exact nn h
 |some v=>exact ⟨v,(aa h).symm,rfl⟩
theorem nB {x:Str} {o:Out V} (h:name x st=some o):∃v,o = .ok v st/\((st.sc.lookup x=some .globalImplicit/\AN x Df=some v)\/((st.sc.lookup x=some .local\/st.sc.lookup x=some .cell\/st.sc.lookup x=some .free)/\AN x st.AA=some v)):=by
 unfold name at h
 induction q:st.sc.lookup x using oc with
 |none=>rw [q] at h;exact nn h
 |some kd=>
  rw [q] at h
  induction kd using NameKind.casesOn with
  |globalExplicit=>exact nn h
  |globalImplicit=>obtain ⟨v,e,f⟩:=MW h;exact ⟨v,e,.inl ⟨rfl,f⟩⟩
  | «local»=>obtain ⟨v,e,f⟩:=MW h;exact ⟨v,e,.inr ⟨.inl rfl,f⟩⟩
  |cell=>obtain ⟨v,e,f⟩:=MW h;exact ⟨v,e,.inr ⟨.inr (.inl rfl),f⟩⟩
  |free=>obtain ⟨v,e,f⟩:=MW h;exact ⟨v,e,.inr ⟨.inr (.inr rfl),f⟩⟩
theorem Ar.get {Q:β->Shared->Prop} (N:Ar AB w A AA C Z φ ρ st s o Q E):∃r,o=some r:=Option.ne_none_iff_exists'.mp N.ne
theorem Oe {x:Str} (hd:(x==("__classdict__" : Str))=false):Au AB w A AA (loadName AA x) st (name x st):=by
 intro φ ρ Z s E Q H N
 obtain ⟨o,e⟩:=N.get
 obtain ⟨v,rfl,hv⟩:=nB e
 have k:∀{rv},VR w.params φ ρ rv v->Q rv s:=fun r=>(N.cast e).pure H r s.toks
 have X:=H.er
 rcases hv with ⟨q,q2⟩ | ⟨q,q2⟩
 .rw [loadName_read X.kind (X.kg x q)]
  obtain ⟨mg,mb,gg,gb,hv⟩:=H.gl.names
  obtain ⟨rv,ht,hr⟩:=hv x v q2
  have S2:=X.gl.symm ▸ gg.ns H.rel
  unfold Qm at ht
  induction q3:mg x using oc with
  |some v'=>rw [q3] at ht;exact loadGlobal_global S2 q3 (aa ht ▸ k (hr _ _))
  |none=>rw [q3] at ht;exact loadGlobal_builtin S2 q3 (X.bl.symm ▸ gb.ns H.rel) ht (k (hr _ _))
 .have cell:(st.sc.lookup x=some .cell\/st.sc.lookup x=some .free)->∃c rv,AA.cells.lookup x=some c/\s.heap.IsCell c (some rv)/\Q rv s:=fun h=>by
   obtain ⟨c,ov,hc,hi,hv,_⟩:=X.ce x h
   obtain ⟨rv,e,hr⟩:=hv v q2
   exact ⟨c,rv,hc,e ▸ hi,k hr⟩
  rcases q with q | q | q
  .obtain ⟨m,hn,hm⟩:=X.ns
   obtain ⟨rv,hv,hr⟩:=hm x v q q2
   exact wpAny_loadName_local X.kind (X.kl x q) hn hv (k hr)
  .obtain ⟨c,rv,hc,hi,kq⟩:=cell (.inl q)
   exact wpAny_loadName_cell X.kind (X.kc x q) hc hi kq
  .obtain ⟨c,rv,hc,hi,kq⟩:=cell (.inr q)
   rcases X.kf x q with kf | kf
   .exact wpAny_loadName_cell X.kind kf hc hi kq
   .exact wpAny_loadName_free X.kind kf hc hi kq hd
theorem A9 (m:M α) (f:α->M β) (g:β->M γ):AD (AD m f) g=AD m fun x=>AD (f x) g:=by
 funext st
 unfold AD
 induction m st using oc with
 |none=>rfl
 |some o=>induction o using uc <;> rfl
theorem HQ (m:M α):AD m AF=m:=by
 funext st
 unfold AD
 induction h:m st using oc with
 |none=>rfl
 |some o=>induction o using uc <;> rfl
theorem V.FY {i:Int} (h:v.int? = some i):v = .int i:=by
 induction v using V.casesOn with
 |int j=>exact congrArg V.int (aa h)
 |_=>exact nn h
theorem V.Fp {i:Str} (h:v.B7 = some i):v = .str i:=by
 induction v using V.casesOn with
 |str j=>exact congrArg V.str (aa h)
 |_=>exact nn h
theorem V.UN {i:List V} (h:v.Gz = some i):v = .lst i:=by
 induction v using V.casesOn with
 |lst j=>exact congrArg V.lst (aa h)
 |_=>exact nn h
theorem V.WZ {i:List V} (h:v.I8 = some i):v = .tup i:=by
 induction v using V.casesOn with
 |tup j=>exact congrArg V.tup (aa h)
 |_=>exact nn h
theorem V.Rf {i:Bool} (h:v.bool? = some i):v = .bool i:=by
 induction v using V.casesOn with
 |bool j=>exact congrArg V.bool (aa h)
 |_=>exact nn h
theorem GN (h:x.elim True P) (e:x=some a):P a:=by rw [e] at h;exact h
theorem qy {x:Option Expr × Option Expr × Option Expr} (h:slice? e=some x):∃p,e = .Slice x.1 x.2.1 x.2.2 p:=GN (P:=fun x=>∃p,e = .Slice x.1 x.2.1 x.2.2 p) (by clear h;induction e using Expr.casesOn <;> first | exact trivial | exact ⟨_,rfl⟩) h
theorem V.VB (h:v.ref? = some i):v = .ref i:=GN (P:=fun i=>v = .ref i) (by clear h;induction v using V.casesOn <;> first | exact trivial | exact rfl) h
theorem Rb {x:Expr × Str × Pos} (h:JF e=some x):e = .Attribute x.1 x.2.1 x.2.2:=GN (P:=fun x=>e = .Attribute x.1 x.2.1 x.2.2) (by clear h;induction e using Expr.casesOn <;> first | exact trivial | exact rfl) h
theorem uo {x:Expr × Expr × Pos} (h:H9 e=some x):e = .Subscript x.1 x.2.1 x.2.2:=GN (P:=fun x=>e = .Subscript x.1 x.2.1 x.2.2) (by clear h;induction e using Expr.casesOn <;> first | exact trivial | exact rfl) h
theorem Yc {x:Expr × List Expr × List Keyword × Pos} (h:Rk e=some x):e = .Call x.1 x.2.1 x.2.2.1 x.2.2.2:=GN (P:=fun x=>e = .Call x.1 x.2.1 x.2.2.1 x.2.2.2) (by clear h;induction e using Expr.casesOn <;> first | exact trivial | exact rfl) h
inductive Wm {α β γ:Type} (x:Option α) (y:Option β) (f:α->β->Option γ) (o:γ):Prop
 |mk (a:α) (b:β) (e1:x=some a) (e2:y=some b) (e3:f a b=some o)
inductive Wn {α β γ:Type} (x:Option α) (y:Option β) (f:α->β->M γ) (st:S) (o:Out γ):Prop
 |mk (a:α) (b:β) (e1:x=some a) (e2:y=some b) (e3:f a b st=some o)
theorem DG {f:α->β->Option γ} {o:γ} (h:both x y f=some o):Wm x y f o:=by
 induction x using oc with
 |none=>exact nn h
 |some a=>induction y using oc with
  |none=>exact nn h
  |some b=>exact ⟨a,b,rfl,rfl,h⟩
theorem EM {f:α->β->M γ} {o:Out γ} (h:BY x y f st=some o):Wn x y f st o:=by
 induction x using oc with
 |none=>exact nn h
 |some a=>induction y using oc with
  |none=>exact nn h
  |some b=>exact ⟨a,b,rfl,rfl,h⟩
theorem NO {x:α × α} (h:two l=some x):l=[x.1,x.2]:=by
 induction l using lc with
 |nil=>exact nn h
 |cons a r=>induction r using lc with
  |nil=>exact nn h
  |cons b r=>induction r using lc with
   |nil=>rw [<-aa h]
   |cons c r=>exact nn h
theorem Hs {x:Str × Pos} (h:name? e=some x):e = .Name x.1 x.2:=by
 induction e using Expr.casesOn with
 |Name y p=>rw [<-aa h]
 |_=>exact nn h
theorem jQ (h:Tz e=some g):e = .Lambda g.1 g.2.1 g.2.2.1 g.2.2.2:=by
 induction e using Expr.casesOn with
 |Lambda a b c d=>rw [<-aa h]
 |_=>exact nn h
theorem Wa (h:Qt e=some es):∃k p,e = .Tuple es k p:=by
 induction e using Expr.casesOn with
 |Tuple y k p=>rw [<-aa h];exact ⟨k,p,rfl⟩
 |_=>exact nn h
theorem FE {f:α->Option β} (h:x.bind f=some b):∃a,x=some a/\f a=some b:=Option.bind_eq_some_iff.mp h
theorem nG {x:Str × Str} (h:names2 es=some x):∃p q,es=[.Name x.1 p,.Name x.2 q]:=by
 obtain ⟨y,e1,e2⟩:=FE h
 obtain ⟨a,b,h1,h2,h3⟩:=DG e2
 rw [NO e1,Hs h1,Hs h2,<-aa h3]
 exact ⟨_,_,rfl⟩
theorem Uw {x:V × V} (h:Hw v=some x):v = .tup [x.1,x.2]:=by
 obtain ⟨y,e1,e2⟩:=FE h
 rw [V.WZ e1,NO e2]
theorem YJ {f:α->β->M γ} (h:x=some a) (h':y=some b):BY x y f=f a b:=by rw [h,h'];rfl
theorem CE [Decidable c] {m:M α} {o:Out α} (h:(if c then m else AG) st=some o):c/\m st=some o:=by
 by_cases q:c
 .exact ⟨q,by rw [ak q] at h;exact h⟩
 .rw [aj q] at h;exact nn h
theorem Cu [Decidable c] {m:Option γ} {o:γ} (h:(if c then m else none)=some o):c/\m=some o:=by
 by_cases q:c
 .exact ⟨q,by rw [ak q] at h;exact h⟩
 .rw [aj q] at h;exact nn h
theorem Ip {o:Out α} (h:BR x st=some o):∃a,x=some a/\o = .ok a st:=by
 induction x using oc with
 |none=>exact nn h
 |some a=>exact ⟨a,rfl,(aa h).symm⟩
theorem GB {f:O->M β} {o:Out β} (h:AD (A4 i) f st=some o):∃ob,st.hp[i]? = some ob/\f ob st=some o:=by
 unfold AD A4 at h
 induction q:st.hp[i]? using oc with
 |none=>rw [q] at h;exact nn h
 |some ob=>rw [q] at h;exact ⟨ob,rfl,h⟩
theorem Kn {f:O->M β} (h:st.hp[i]? = some ob):AD (A4 i) f st=f ob st:=by
 unfold AD A4
 rw [h]
theorem B6 {o:Out α} (h:AF a st=some o):o = .ok a st:=(aa h).symm
theorem HP {m:M α} {f:α->M β} {o:Out β} (h:AD m f st=some o):(∃a st',m st=some (.ok a st')/\f a st'=some o)\/∃c st',m st=some (.ex c st')/\o = .ex c st':=by
 unfold AD at h
 induction q:m st using oc with
 |none=>rw [q] at h;exact nn h
 |some r=>
  rw [q] at h
  induction r using uc with
  |ok a st'=>exact .inl ⟨a,st',rfl,h⟩
  |ex c st'=>exact .inr ⟨c,st',rfl,(aa h).symm⟩
theorem BK.get {Q:α->Shared->Prop} (N:BK AB w A AA Z φ ρ st s o Q E):∃r,o=some r:=Option.ne_none_iff_exists'.mp N.ne
theorem Ar.done {Q:β->Shared->Prop} {v:α} {rv:β} (N:Ar AB w A AA C Z φ ρ st s o Q E) (H:AK AB w A AA Z φ ρ st s.heap) (e:o=some (.ok v st)) (hv:C φ ρ rv v):Q rv s:=(N.cast e).pure H hv s.toks
theorem Ar.seq {Q:δ->Shared->Prop} (N:Ar AB w A AA D Z φ ρ st s (AD m f st) Q E)
  (hk:∀x st' rv AE ρ' h' tk,C AE ρ' rv x->Al AB w A AA Z φ ρ st s.heap AE ρ' st' h'->Ar AB w A AA D Z AE ρ' st' {s with heap:=h',toks:=tk} (f x st') Q E->K rv {s with heap:=h',toks:=tk}):Ar AB w A AA C Z φ ρ st s (m st) K E:=
 ⟨fun q=>N.ne (BQ q),fun x st' q rv AE ρ' h' tk v p=>hk x st' rv AE ρ' h' tk v p ((N.after p tk).cast (AJ q)),fun c st' q e AE ρ' h' tk f' p=>N.ex c st' (Bu q) e AE ρ' h' tk f' p⟩
theorem Ar.G5 {Q:δ->Shared->Prop} {K:α->Shared->Prop} (N:Ar AB w A AA D Z φ ρ st s (AD m f st) Q E)
  (hk:∀x st' AE ρ' h' tk,Al AB w A AA Z φ ρ st s.heap AE ρ' st' h'->Ar AB w A AA D Z AE ρ' st' {s with heap:=h',toks:=tk} (f x st') Q E->K x {s with heap:=h',toks:=tk}):BK AB w A AA Z φ ρ st s (m st) K E:=
 ⟨fun q=>N.ne (BQ q),fun x st' q AE ρ' h' tk p=>hk x st' AE ρ' h' tk p ((N.after p tk).cast (AJ q)),fun c st' q e AE ρ' h' tk f' p=>N.ex c st' (Bu q) e AE ρ' h' tk f' p⟩
theorem BK.G5 {Q:γ->Shared->Prop} {K:α->Shared->Prop} (N:BK AB w A AA Z φ ρ st s (AD m f st) Q E)
  (hk:∀x st' AE ρ' h' tk,Al AB w A AA Z φ ρ st s.heap AE ρ' st' h'->BK AB w A AA Z AE ρ' st' {s with heap:=h',toks:=tk} (f x st') Q E->K x {s with heap:=h',toks:=tk}):BK AB w A AA Z φ ρ st s (m st) K E:=
 ⟨fun q=>N.ne (BQ q),fun x st' q AE ρ' h' tk p=>hk x st' AE ρ' h' tk p ((N.after p tk).cast (AJ q)),fun c st' q e AE ρ' h' tk f' p=>N.ex c st' (Bu q) e AE ρ' h' tk f' p⟩
theorem BK.ret {C:Fz->AZ->β->γ->Prop} {g:α->γ} {Q:α->Shared->Prop} (N:BK AB w A AA Z φ ρ st s (m st) Q E) (hk:∀c rv AE ρ' s',C AE ρ' rv (g c)->Q c s'->K rv s'):Ar AB w A AA C Z φ ρ st s (AD m (fun c=>AF (g c)) st) K E:=by
 induction e:m st using oc with
 |none=>exact (N.ne e).elim
 |some o=>
  induction o using uc with
  |ok c AL=>
   rw [AJ e]
   refine ⟨fun q=>(nomatch q),fun x st2 q rv AE ρ' h' tk vx p=>?_,fun _ _ q=>(nomatch q)⟩
   cases q
   exact hk c rv AE ρ' _ vx (N.ok c _ e AE ρ' h' tk p)
  |ex c AL=>
   rw [Bu e]
   refine ⟨fun q=>(nomatch q),fun _ _ q=>(nomatch q),fun x st2 q=>?_⟩
   cases q
   exact N.ex c _ e
theorem Cy {t:T} {m:M V} (h:step ih t=AD m fun v=>AF (.v v)):Ih.v (step ih) t=m:=by
 show AD (step ih t) _=m
 rw [h,A9];exact HQ m
theorem KU {t:T} {m:M Bool} (h:step ih t=AD m fun v=>AF (.b v)):Ih.b (step ih) t=m:=by
 show AD (step ih t) _=m
 rw [h,A9];exact HQ m
theorem Dk {t:T} {m:M Fl} (h:step ih t=AD m fun v=>AF (.f v)):Ih.f (step ih) t=m:=by
 show AD (step ih t) _=m
 rw [h,A9];exact HQ m
theorem JU [Decidable c] {m:M α} {f:α->M β} {n:M β} (h:n=AD m f):(if c then n else AG)=AD (if c then m else AG) f:=by
 split
 .exact h
 .rfl
theorem SK {l r op pos}:Ih.v (step ih) (.ev (.BinOp l op r pos))=AD (ih.v (.ev l)) fun a=>AD (ih.v (.ev r)) fun b=>DF op a b:=by
 exact Cy (by (try simp only [A9]);rfl)
theorem SO {l r op pos}:Ih.v (step ih) (.ev (.Compare l [op] [r] pos))=if behindInMarks op r then AG else AD (ih.v (.ev l)) fun a=>AD (ih.v (.ev r)) fun b=>AD (cmp op a b) fun c=>AF (V.bool c):=by
 refine Cy ?_
 by_cases h:behindInMarks op r=true
 .rw [ak h];exact ak h
 .rw [aj h]
  refine Eq.trans (aj h) ?_
  simp only [A9] <;> rfl
theorem Z7 {t a b pos}:Ih.v (step ih) (.ev (.IfExp t a b pos))=AD (ih.b (.ts t)) fun c=>if c then ih.v (.ev a) else ih.v (.ev b):=by
 show AD (step ih _) _=_
 refine (A9 (ih.b (.ts t)) _ _).trans ?_
 congr 1;funext c;induction c using bc <;> rfl
theorem Lv {x pos}:Ih.v (step ih) (.ev (.Name x pos))=if Cd x then name x else AG:=by
 exact Cy (JU rfl)
theorem Mc {x:Str} (h:Cd x=true):(x==("__debug__" : Str))=false/\(x==("__classdict__" : Str))=false:=by
 simpa [Cd] using h
theorem SJ {o a pos}:Ih.v (step ih) (.ev (.Attribute o a pos))=if DK o then AD (ih.v (.ev o)) fun v=>FP v a else AG:=by
 exact Cy (JU (by simp only [A9] <;> rfl))
theorem SQ {es pos}:Ih.v (step ih) (.ev (.List es pos))=AD (BG ih es) fun l=>Bb l:=by
 exact Cy (by (try simp only [A9]);rfl)
theorem Z9 {x p e pos}:Ih.v (step ih) (.ev (.NamedExpr (.Name x p) e pos))=AD (ih.v (.ev e)) fun v=>AD (store x v) fun _=>AF v:=by
 exact Cy (by (try simp only [A9]);rfl)
theorem NJ {es pos}:Ih.b (step ih) (.ts (.BoolOp .And es pos))=DE ih es:=by
 exact KU (by (try simp only [A9]);rfl)
theorem Ar.Bd {Q:β->Shared->Prop} (N:Ar AB w A AA C Z φ ρ st s (AG st) Q E):False:=N.ne rfl
theorem BK.Bd {Q:α->Shared->Prop} (N:BK AB w A AA Z φ ρ st s (AG st) Q E):False:=N.ne rfl
theorem cR {l:Expr} (hl:∀st,Au AB w A AA (eval l AA) st (ih.v (.ev l) st)) (hr:∀st,Au AB w A AA (eval r AA) st (ih.v (.ev r) st))
  (ho:∀{a b ra rb φ ρ Z st s E Q},AK AB w A AA Z φ ρ st s.heap->VR w.params φ ρ ra a->VR w.params φ ρ rb b->As AB w A AA Z φ ρ st s (DF op a b st) Q E->wpAny (model AB w) A (binaryOp op ra rb) Q E s) :
  Au AB w A AA (eval (.BinOp l op r pos) AA) st (Ih.v (step ih) (.ev (.BinOp l op r pos)) st):=by
 intro φ ρ Z s E Q H N
 rw [SK] at N
 refine wpAny_BinOp ((hl st).BH H N fun a AL ra AY Ad AH AO va H1 _ N1=>(hr AL).BH H1 N1 fun b st2 rb Ab Ae AR Aw vb H2 AW N2=>?_)
 exact ho H2 (va.mono AW.ext.le AW.ext.pf) vb N2
theorem cU {l:Expr} {op:CmpOp} (hl:∀st,Au AB w A AA (eval l AA) st (ih.v (.ev l) st)) (hr:∀st,Au AB w A AA (eval r AA) st (ih.v (.ev r) st))
  (ho:∀{a b ra rb φ ρ Z st s E Q},AK AB w A AA Z φ ρ st s.heap->VR w.params φ ρ ra a->VR w.params φ ρ rb b->As AB w A AA Z φ ρ st s (AD (cmp op a b) (fun c=>AF (V.bool c)) st) Q E->wpAny (model AB w) A (compareOp op ra rb) Q E s) :
  Au AB w A AA (eval (.Compare l [op] [r] pos) AA) st (Ih.v (step ih) (.ev (.Compare l [op] [r] pos)) st):=by
 intro φ ρ Z s E Q H N
 rw [SO] at N
 by_cases hb:behindInMarks op r=true
 .rw [ak hb] at N;exact N.Bd.elim
 .rw [aj hb] at N
  refine wpAny_Compare1 ((hl st).BH H N fun a AL ra AY Ad AH AO va H1 _ N1=>(hr AL).BH H1 N1 fun b st2 rb Ab Ae AR Aw vb H2 AW N2=>?_) (by simpa using hb)
  exact ho H2 (va.mono AW.ext.le AW.ext.pf) vb N2
theorem cj {t a b:Expr} (ht:∀st,Bm AB w A AA (isTrue t AA (eval t AA)) st (ih.b (.ts t) st)) (ha:∀st,Au AB w A AA (eval a AA) st (ih.v (.ev a) st)) (hb:∀st,Au AB w A AA (eval b AA) st (ih.v (.ev b) st)) :
  Au AB w A AA (eval (.IfExp t a b pos) AA) st (Ih.v (step ih) (.ev (.IfExp t a b pos)) st):=by
 intro φ ρ Z s E Q H N
 rw [Z7] at N
 refine IfExp_ ((ht st).BH H N fun c AL AY Ad AH AO H1 _ N1=>?_)
 induction c using bc with
 |true=>exact ha AL _ _ _ _ _ _ H1 N1
 |false=>exact hb AL _ _ _ _ _ _ H1 N1
theorem c9 {x:Str}:Au AB w A AA (eval (.Name x pos) AA) st (Ih.v (step ih) (.ev (.Name x pos)) st):=by
 intro φ ρ Z s E Q H N
 rw [Lv] at N
 by_cases hx:Cd x=true
 .rw [ak hx] at N
  exact wpAny_Name (Oe (Mc hx).2 φ ρ Z s E Q H N) (Mc hx).1
 .rw [aj hx] at N;exact N.Bd.elim
theorem dW (ht:∀e st,Bm AB w A AA (isTrue e AA (eval e AA)) st (ih.b (.ts e) st)):∀es st,Bm AB w A AA (allTrue .And es AA) st (DE ih es st):=by
 intro Gj
 induction Gj with
 |nil=>
  intro st
  intro φ ρ Z s E Q H N
  exact wpAny_allTrue_And_nil (N.pure H s.toks)
 |cons e es AU=>
  intro st
  intro φ ρ Z s E Q H N
  have N':BK AB w A AA Z φ ρ st s (AD (ih.b (.ts e)) (fun c=>if c then DE ih es else AF false) st) Q E:=N
  refine wpAny_allTrue_And_cons ((ht e st).Fq H N' fun c AL AY Ad AH AO H1 _ N1=>?_)
  induction c using bc with
  |true=>exact AU AL _ _ _ _ _ _ H1 N1
  |false=>exact N1.pure H1 AO
theorem dX (ht:∀e st,Bm AB w A AA (isTrue e AA (eval e AA)) st (ih.b (.ts e) st)):∀es st,Bm AB w A AA (allTrue .Or es AA) st (Gg ih es st):=by
 intro Gj
 induction Gj with
 |nil=>
  intro st
  intro φ ρ Z s E Q H N
  exact wpAny_allTrue_Or_nil (N.pure H s.toks)
 |cons e es AU=>
  intro st
  intro φ ρ Z s E Q H N
  have N':BK AB w A AA Z φ ρ st s (AD (ih.b (.ts e)) (fun c=>if c then AF true else Gg ih es) st) Q E:=N
  refine wpAny_allTrue_Or_cons ((ht e st).Fq H N' fun c AL AY Ad AH AO H1 _ N1=>?_)
  induction c using bc with
  |true=>exact N1.pure H1 AO
  |false=>exact AU AL _ _ _ _ _ _ H1 N1
theorem DV (e:ρ[i]? = some p) {a:Addr} (h:a=p.1\/p.2=some a):a∈Aa ρ:=by
 refine List.mem_flatMap.mpr ⟨p,List.mem_of_getElem? e,?_⟩
 rcases h with rfl | h
 .exact .head _
 .exact .tail _ (by rw [h];exact .head _)
theorem slotR.mono {P:Params} (l:Le φ AE) (q:Pf ρ ρ') {a:Option Value} {b:Option V} (x:slotR P φ ρ a b):slotR P AE ρ' a b:=by
 induction a using oc <;> induction b using oc <;> first | exact x | exact VR.mono l q x
theorem G0.mono {P:Params} (l:Le φ AE) (q:Pf ρ ρ') {a:Option Value} {b:Option V} (x:G0 P φ ρ a b):G0 P AE ρ' a b:=by
 induction a using oc <;> induction b using oc <;> first | exact x | exact VR.mono l q x
theorem OR.mono (l:Le φ AE) (q:Pf ρ ρ') {p:Addr × Option Addr} {o:O} (k:∀a,(a=p.1\/p.2=some a)->∀x,h.get? a=some x->h'.get? a=some x) (x:OR AB w φ ρ h p o):OR AB w AE ρ' h' p o:=by
 induction o using O.casesOn with
 |list l'=>obtain ⟨a,b,xs,n,e,r⟩:=x;exact ⟨a,b,xs,n,k _ (.inl rfl) _ e,r.mono l q⟩
 |dict l' cl=>obtain ⟨a,b,c,xs,n,e,z,r⟩:=x;exact ⟨a,b,c,xs,n,k _ (.inl rfl) _ e,z,r.mono l q⟩
 |set l'=>obtain ⟨a,b,o,es,ep,t,e,r⟩:=x;exact ⟨a,b,o,es,ep,t,k _ (.inl rfl) _ e,r⟩
 |inst l'=>obtain ⟨a,d,m,e1,e2,e3,r⟩:=x;exact ⟨a,d,m,e1,k _ (.inl rfl) _ e2,e3.at (k _ (.inr e1)),fun y=>(r y).mono l q⟩
 |node a b c=>obtain ⟨d,sl,e1,e2,e3,r1,r2,r3⟩:=x;exact ⟨d,sl,e1,k _ (.inl rfl) _ e2,k _ (.inr e1) _ e3,r1.mono l q,r2.mono l q,r3.mono l q⟩
 |iter i j=>obtain ⟨a,b,e1,e2⟩:=x;exact ⟨a,b,q.get e1,k _ (.inl rfl) _ e2⟩
 |obj=>exact ⟨x.1,k _ (.inl rfl) _ x.2⟩
 |gone=>exact x
 |tab=>obtain ⟨a,vs,e,t⟩:=x;exact ⟨a,vs,k _ (.inl rfl) _ e,t⟩
theorem ER.mono {P:Params} (X:ER P φ ρ AA Z st h) (l:Le φ AE) (q:Pf ρ ρ') (k:∀b o,h.get? b=some o->b∉Aa ρ->∃sl,h'.get? b=some {o with slots:=sl}) (live:∀a,h.get? a≠none->h'.get? a≠none)
  (newF:∀a o,AE a=some o->φ a=none->h.get? a=none) (newR:∀a∈Aa ρ',a∉Aa ρ->h.get? a=none) (e1:st'.AA=st.AA) (e2:st'.sc=st.sc):ER P AE ρ' AA Z st' h':=by
 have off:∀a,h.get? a≠none->a∉Aa ρ->φ a=none->a∉Aa ρ'/\AE a=none:=fun a ha hn hp=>by
  refine ⟨fun hm=>ha (newR a hm hn),?_⟩
  induction e:AE a using oc with
  |none=>rfl
  |some o=>exact absurd (newF a o e hp) ha
 refine ⟨X.kind,X.gl,X.bl,by rw [e2];exact X.cd,by rw [e2];exact X.kl,by rw [e2];exact X.kc,by rw [e2];exact X.kf,by rw [e2];exact X.kg,?_,?_,by rw [e2];exact X.inj,X.zl,?_⟩
 .obtain ⟨m,⟨o,es,ep,ho,r⟩,hm⟩:=X.ns
  obtain ⟨sl,Ii⟩:=k _ _ ho (X.zr _ X.zl).1
  refine ⟨m,⟨_,es,ep,Ii,r⟩,?_⟩
  rw [e1,e2]
  intro x v hx hv
  obtain ⟨rv,a,b⟩:=hm x v hx hv
  exact ⟨rv,a,b.mono l q⟩
 .rw [e1,e2]
  intro x hx
  obtain ⟨c,ov,a1,⟨o,ho,hd⟩,a3,a4,a5,a6⟩:=X.ce x hx
  obtain ⟨z1,z2⟩:=off c (A8 ho) a4 a5
  obtain ⟨sl,Ii⟩:=k _ _ ho a4
  exact ⟨c,ov,a1,⟨_,Ii,hd⟩,fun v hv=>let ⟨rv,b1,b2⟩:=a3 v hv;⟨rv,b1,b2.mono l q⟩,z1,z2,a6⟩
 .intro a ha
  obtain ⟨z1,z2,z3⟩:=X.zr a ha
  obtain ⟨y1,y2⟩:=off a z3 z1 z2
  exact ⟨y1,y2,live a z3⟩
noncomputable def put (φ:Fz) (a:Addr) (o:Obj):Fz:=fun b=>if b=a then some o else φ b
theorem DY (φ:Fz) (a:Addr) (o:Obj):put φ a o a=some o:=ak rfl
end
section
open PySem PySem.W PyProof.Rows PySem.Calls
variable {AB:Program} {w:World} {A:Around} {AA:Env} {Z:List Addr} {φ AE:Fz} {ρ ρ':AZ} {st st':S} {h h':Heap} {s:Shared} {E:Value->Shared->Prop} {Q:Unit->Shared->Prop} {ih:Ih} {x y:Str} {v u:V} {r:Loc} {e:Expr} {line:Nat}
theorem AK.grow (H:AK AB w A AA Z φ ρ st h) (k:∀b o,h.get? b=some o->h'.get? b=some o):Al AB w A AA Z φ ρ st h φ ρ st h':=by
 have live:∀a,h.get? a≠none->h'.get? a≠none:=fun a n=>by
  induction e:h.get? a using oc with
  |none=>exact absurd e n
  |some x=>rw [k a x e];exact fun q=>by cases q
 have ext:Ext φ ρ h Z φ ρ h':=⟨.refl _,.refl _,fun a x e n=>(by rw [n] at e;exact nn e),fun a ha hn=>absurd ha hn,live,fun b x e _ _=>.inl (k b x e)⟩
 exact ⟨⟨fun a x e=>k _ _ (H.rel.fz _ _ e),H.rel.len,fun i x p e1 e2=>(H.rel.ob i x p e1 e2).mono (.refl _) (.refl _) fun a _ y e=>k _ _ e,H.rel.nd,H.rel.ap,fun a ha=>live a (H.rel.th a ha)⟩,
  H.er.mono (.refl _) (.refl _) (fun b x e _=>⟨x.slots,k b x e⟩) live (fun a x e n=>(by rw [n] at e;exact nn e)) (fun a ha hn=>absurd ha hn) rfl rfl,
  H.amb.after ext fun b _ o es n e q=>⟨o,es,n,k b o e,q⟩,ext,rfl,rfl,rfl,rfl⟩
theorem Ca:AN x ((y,v)::r)=if y==x then some v else AN x r:=rfl
theorem KW:CX x ((y,u)::r)=if y==x then r else (y,u)::CX x r:=rfl
theorem I1:Ao x v ((y,u)::r)=if y==x then (y,v)::r else (y,u)::Ao x v r:=rfl
theorem Oc (x:Str) (v:V):∀l:Loc,AN x (Ao x v l)=some v:=by
 intro l_
 induction l_ with
 |nil=>
  exact Ca.trans (ak (beq_self_eq_true x))
 |cons BN r AU=>
  obtain ⟨y,u⟩:=BN
  rw [I1]
  by_cases q:(y==x)=true
  .rw [ak q,Ca,ak q]
  .rw [aj q,Ca,aj q];exact AU
theorem Km (v:V) (n:y≠x):∀l:Loc,AN y (Ao x v l)=AN y l:=by
 intro l_
 induction l_ with
 |nil=>
  exact Ca.trans (aj fun q=>n (eq_of_beq q).symm)
 |cons BN r AU=>
  obtain ⟨z,u⟩:=BN
  rw [I1]
  by_cases q:(z==x)=true
  .obtain rfl:=eq_of_beq q
   have nq:¬ (z==y)=true:=fun q=>n (eq_of_beq q).symm
   rw [ak q,Ca,Ca,aj nq,aj nq]
  .rw [aj q,Ca,Ca]
   by_cases q2:(z==y)=true
   .rw [ak q2,ak q2]
   .rw [aj q2,aj q2];exact AU
theorem Hh {rv:Value} (H:AK AB w A AA Z φ ρ st s.heap) (hv:VR w.params φ ρ rv v) (N:BK AB w A AA Z φ ρ st s (store x v st) Q E):wpAny (model AB w) A (storeName AA x rv) Q E s:=by
 have X:=H.er
 unfold store at N
 have main:∀h',(∀y,y∈Z\/h'.get? y=s.heap.get? y)->(∀a,s.heap.get? a≠none->h'.get? a≠none)->
   (∀b∈Z,∀o es n,s.heap.get? b=some o->o.data = .dict es n->∃o' es n,h'.get? b=some o'/\o'.data = .dict es n)->
   ER w.params φ ρ AA Z {st with AA:=Ao x v st.AA} h'->Al AB w A AA Z φ ρ st s.heap φ ρ {st with AA:=Ao x v st.AA} h':=fun h' k live hz er=>by
  have keep:∀b o,s.heap.get? b=some o->b∉Z->h'.get? b=some o:=fun b o e n=>((k b).resolve_left n).trans e
  have ext:Ext φ ρ s.heap Z φ ρ h':=⟨.refl _,.refl _,fun a y e n=>(by rw [n] at e;exact nn e),fun a ha hn=>absurd ha hn,live,fun b o e _ n=>.inl (keep b o e n)⟩
  exact ⟨⟨fun a o e=>keep a o (H.rel.fz _ _ e) (fun m=>by rw [(X.zr a m).2.1] at e;exact nn e),H.rel.len,
   fun i o p e1 e2=>(H.rel.ob i o p e1 e2).mono (.refl _) (.refl _) fun a ha y e=>keep _ _ e fun m=>(X.zr a m).1 (DV e2 ha),H.rel.nd,H.rel.ap,fun a ha=>live a (H.rel.th a ha)⟩,
   er,H.amb.after ext hz,ext,rfl,rfl,rfl,rfl⟩
 induction q:st.sc.lookup x using oc with
 |none=>rw [q] at N;exact (N.ne rfl).elim
 |some kd=>
  rw [q] at N
  induction kd using NameKind.casesOn with
  |globalExplicit=>exact (N.ne rfl).elim
  |globalImplicit=>exact (N.ne rfl).elim
  |free=>exact (N.ne rfl).elim
  | «local»=>
   obtain ⟨m,hn,hm⟩:=X.ns
   refine wpAny_storeName_local (X.kl x q) hn (fun h' Ig hs=>?_) (by simp [X.kind])
   have live:∀a,s.heap.get? a≠none->h'.get? a≠none:=fun a n=>by
    by_cases e:a=AA.locals
    .obtain ⟨o',DH,n',b1,_⟩:=Ig
     rw [e,b1];exact fun q=>by cases q
    .rw [hs.2 a e];exact n
   refine N.ok () _ rfl φ ρ h' _ (main h' (fun y=>?_) live (fun b _ o es n e q=>?_) ?_)
   .by_cases e:y=AA.locals
    .exact .inl (e ▸ X.zl)
    .exact .inr (hs.2 y e)
   .by_cases e2:b=AA.locals
    .obtain ⟨o',DH,n',b1,b2,_⟩:=Ig
     exact ⟨o',DH,n',e2 ▸ b1,b2⟩
    .exact ⟨o,es,n,(hs.2 b e2).trans e,q⟩
   .refine ⟨X.kind,X.gl,X.bl,X.cd,X.kl,X.kc,X.kf,X.kg,⟨_,Ig,fun y u hy hu=>?_⟩,fun y hy=>?_,X.inj,X.zl,fun a ha=>?_⟩
    .by_cases e:y=x
     .subst e
      simp only [Oc,Option.some.injEq] at hu
      subst hu
      exact ⟨rv,ak rfl,hv⟩
     .simp only [Km v e] at hu
      obtain ⟨r,a,b⟩:=hm y u hy hu
      exact ⟨r,by simp only [aj e];exact a,b⟩
    .have e:y≠x:=fun e=>by subst e;rw [q] at hy;rcases hy with hy | hy <;> cases hy
     obtain ⟨c,ov,a1,a2,a3,a4,a5,a6,a7⟩:=X.ce y hy
     exact ⟨c,ov,a1,a2.sameBut hs a6,fun u hu=>a3 u (by simp only [Km v e] at hu;exact hu),a4,a5,a6,a7⟩
    .obtain ⟨z1,z2,z3⟩:=X.zr a ha
     exact ⟨z1,z2,live a z3⟩
  |cell=>
   obtain ⟨c,ov,a1,a2,a3,a4,a5,a6,a7,a8⟩:=X.ce x (.inl q)
   refine wpAny_storeName_cell X.kind (X.kc x q) a1 a2 fun h' hi hs=>?_
   have live:∀a,s.heap.get? a≠none->h'.get? a≠none:=fun a n=>by
    by_cases e:a=c
    .obtain ⟨o',b1,_⟩:=hi
     rw [e,b1];exact fun q=>by cases q
    .rw [hs.2 a e];exact n
   refine N.ok () _ rfl φ ρ h' s.toks (main h' (fun y=>?_) live (fun b _ o es n e q2=>?_) ?_)
   .by_cases e:y=c
    .exact .inl (e ▸ a7 q)
    .exact .inr (hs.2 y e)
   .by_cases e2:b=c
    .obtain ⟨oc,b1,b2⟩:=a2
     rw [e2,b1] at e
     obtain rfl:=aa e
     rw [b2] at q2
     cases q2
    .exact ⟨o,es,n,(hs.2 b e2).trans e,q2⟩
   .obtain ⟨m,hn,hm⟩:=X.ns
    refine ⟨X.kind,X.gl,X.bl,X.cd,X.kl,X.kc,X.kf,X.kg,⟨m,hn.sameBut hs (Ne.symm a6),fun y u hy hu=>?_⟩,fun y hy=>?_,X.inj,X.zl,fun a ha=>?_⟩
    .have e:y≠x:=fun e=>by subst e;rw [q] at hy;cases hy
     simp only [Km v e] at hu
     exact hm y u hy hu
    .by_cases e:y=x
     .subst e
      refine ⟨c,some rv,a1,hi,fun u hu=>?_,a4,a5,a6,a7,a8⟩
      simp only [Oc,Option.some.injEq] at hu
      subst hu
      exact ⟨rv,rfl,hv⟩
     .obtain ⟨d,Uv,b1,b2,b3,b4,b5,b6,b7,b8⟩:=X.ce y hy
      have dc:d≠c:=fun e2=>by
       subst e2
       rcases hy with hy | hy
       .exact e (X.inj y x d hy q b1 a1)
       .exact b8 hy (a7 q)
      exact ⟨d,Uv,b1,b2.sameBut hs dc,fun u hu=>b3 u (by simp only [Km v e] at hu;exact hu),b4,b5,b6,b7,b8⟩
    .obtain ⟨z1,z2,z3⟩:=X.zr a ha
     exact ⟨z1,z2,live a z3⟩
inductive FR (P:Params) (φ:Fz) (ρ:AZ):Flow->Fl->Prop
 |next:FR P φ ρ .next .next
 |brk:FR P φ ρ .brk .brk
 |cont:FR P φ ρ .cont .cont
 |ret {v:Value} {x:V} (h:VR P φ ρ v x):FR P φ ρ (.ret v) (.ret x)
noncomputable abbrev BO (AB:Program) (w:World) (A:Around) (AA:Env):=Di AB w A AA (FR w.params)
noncomputable abbrev Cp (AB:Program) (w:World) (A:Around) (AA:Env):=Ar AB w A AA (FR w.params)
theorem JN:Ih.f (step ih) (.exs [])=AF .next:=by
 exact Dk (by (try simp only [A9]);rfl)
theorem JM {s:Stmt} {r:List Stmt}:Ih.f (step ih) (.exs (s::r))=AD (ih.f (.ex s)) fun f=>match f with | .next=>ih.f (.exs r) | f=>AF f:=by
 show AD (step ih _) _=_
 refine (A9 (ih.f (.ex s)) _ _).trans ?_
 congr 1;funext f;induction f using Fl.casesOn <;> rfl
theorem OQ {t a b pos}:Ih.f (step ih) (.ex (.If t a b pos))=AD (ih.b (.ts t)) fun c=>if c then ih.f (.exs a) else ih.f (.exs b):=by
 show AD (step ih _) _=_
 refine (A9 (ih.b (.ts t)) _ _).trans ?_
 congr 1;funext c;induction c using bc <;> rfl
theorem OS {e pos}:Ih.f (step ih) (.ex (.Return (some e) pos))=AD (ih.v (.ev e)) fun v=>AF (Fl.ret v):=by
 exact Dk (by (try simp only [A9]);rfl)
theorem aP {pos}:Ih.f (step ih) (.ex (.Return none pos))=AF (Fl.ret .none):=by
 exact Dk (by (try simp only [A9]);rfl)
theorem Lz {e pos}:Ih.f (step ih) (.ex (.Expr e pos))=if EZ e then AG else AD (ih.v (.ev e)) fun _=>AF Fl.next:=by
 refine Dk ?_
 by_cases h:EZ e=true
 .rw [ak h];exact ak h
 .rw [aj h]
  refine Eq.trans (aj h) ?_
  rw [A9];rfl
theorem u9 (h:EZ e=false):swapsWith e none line AA=pure false:=by
 induction e using Expr.casesOn <;> first | rfl | exact Bool.noConfusion (h:true=false)
theorem IW {ts e pos} (hp:EC ts e=true):Ih.f (step ih) (.ex (.Assign ts e pos))=AD (ih.v (if Dl e then .evm e else .ev e)) fun v=>AD (HO ih v ts) fun _=>AF Fl.next:=by
 refine Dk ?_
 simp only [A9]
 exact (ak hp:Gh ih ts e=_)
theorem aK {x p op e pos}:Ih.f (step ih) (.ex (.AugAssign (.Name x p) op e pos))=if Cd x then AD (name x) fun a=>AD (ih.v (.ev e)) fun b=>AD (FD op a b) fun c=>AD (store x c) fun _=>AF Fl.next else AG:=by
 exact Dk (JU (by simp only [A9] <;> rfl))
theorem aJ {o at' p op e pos}:Ih.f (step ih) (.ex (.AugAssign (.Attribute o at' p) op e pos))=AD (ih.v (.ev o)) fun ov=>AD (FP ov at') fun a=>AD (ih.v (.ev e)) fun b=>AD (FD op a b) fun c=>AD (H6 ov at' c) fun _=>AF Fl.next:=by
 exact Dk (by (try simp only [A9]);rfl)
theorem SW {t a b pos}:Ih.f (step ih) (.ex (.While t a b pos))=ih.f (.wh t a b):=by
 rfl
theorem L3 {t a b}:Ih.f (step ih) (.wh t a b)=AD (ih.b (.ts t)) fun c=>if c then AD (ih.f (.exs a)) fun f=>match f with
  | .brk=>AF Fl.next
  | .ret v=>AF (.ret v)
  |_=>ih.f (.wh t a b) else ih.f (.exs b):=by
 show AD (step ih _) _=_
 refine (A9 (ih.b (.ts t)) _ _).trans ?_
 congr 1;funext c;induction c using bc with
 |false=>rfl
 |true=>
  refine (A9 (ih.f (.exs a)) _ _).trans ?_
  show AD _ _=AD _ _
  congr 1;funext f;induction f using Fl.casesOn <;> rfl
theorem Kd {t i a b pos}:Ih.f (step ih) (.ex (.For t i a b pos))=AD (ih.v (.ev i)) fun v=>AD (Bg v) fun l=>Cm ih t a b v l.1 l.2.length l.2.length:=by
 exact Dk (by (try simp only [A9]);rfl)
theorem aL {pos}:Ih.f (step ih) (.ex (.Break pos))=AF Fl.brk:=by exact Dk (by (try simp only [A9]);rfl)
theorem aM {pos}:Ih.f (step ih) (.ex (.Continue pos))=AF Fl.cont:=by exact Dk (by (try simp only [A9]);rfl)
theorem aN {pos}:Ih.f (step ih) (.ex (.Pass pos))=AF Fl.next:=by exact Dk (by (try simp only [A9]);rfl)
theorem aH {t m pos}:Ih.f (step ih) (.ex (.Assert t m pos))=AD (ih.b (.ts t)) fun c=>if c then AF Fl.next else AG:=by
 show AD (step ih _) _=_
 refine (A9 (ih.b (.ts t)) _ _).trans ?_
 congr 1;funext c;induction c using bc <;> rfl
theorem SV {o i p pos}:Ih.f (step ih) (.ex (.Delete [.Subscript o i p] pos))=AD (ih.v (.ev o)) fun ov=>AD (ih.v (.ev i)) fun iv=>AD (F6 ov iv) fun _=>AF Fl.next:=by
 exact Dk (by (try simp only [A9]);rfl)
end
section
open PySem PySem.W PyProof.Rows PySem.Calls
variable {AB:Program} {w:World} {A:Around} {AA:Env} {Z:List Addr} {φ AE:Fz} {ρ ρ':AZ} {st st':S} {h h':Heap} {s:Shared} {E:Value->Shared->Prop} {Q:Flow->Shared->Prop} {ih:Ih} {x:Stmt} {r b:List Stmt} {t e:Expr} {pos:Pos} {m:Option Expr} {a:Addr} {o:Obj} {d:Option Addr} {i:Nat} {p:Addr × Option Addr}
theorem dm:BO AB w A AA (execs [] AA) st (Ih.f (step ih) (.exs []) st):=by
 intro φ ρ Z s E Q H N
 rw [JN] at N
 exact wpAny_execs_nil (N.pure H .next s.toks)
theorem dh (hx:∀st,BO AB w A AA (exec x AA) st (ih.f (.ex x) st)) (hr:∀st,BO AB w A AA (execs r AA) st (ih.f (.exs r) st)) :
  BO AB w A AA (execs (x::r) AA) st (Ih.f (step ih) (.exs (x::r)) st):=by
 intro φ ρ Z s E Q H N
 rw [JM] at N
 refine wpAny_execs_cons ((hx st).BH H N fun f AL rf AY Ad AH AO vf H1 _ N1=>?_)
 cases vf with
 |next=>exact hr AL _ _ _ _ _ _ H1 N1
 |brk=>exact N1.pure H1 .brk AO
 |cont=>exact N1.pure H1 .cont AO
 |ret q=>exact N1.pure H1 (.ret q) AO
theorem cg {a:List Stmt} (ht:∀st,Bm AB w A AA (isTrue t AA (eval t AA)) st (ih.b (.ts t) st)) (ha:∀st,BO AB w A AA (execs a AA) st (ih.f (.exs a) st)) (hb:∀st,BO AB w A AA (execs b AA) st (ih.f (.exs b) st)) :
  BO AB w A AA (exec (.If t a b pos) AA) st (Ih.f (step ih) (.ex (.If t a b pos)) st):=by
 intro φ ρ Z s E Q H N
 rw [OQ] at N
 refine wpAny_If ((ht st).BH H N fun c AL AY Ad AH AO H1 _ N1=>?_)
 induction c using bc with
 |true=>exact ha AL _ _ _ _ _ _ H1 N1
 |false=>exact hb AL _ _ _ _ _ _ H1 N1
theorem dH (he:∀st,Au AB w A AA (eval e AA) st (ih.v (.ev e) st)):BO AB w A AA (exec (.Return (some e) pos) AA) st (Ih.f (step ih) (.ex (.Return (some e) pos)) st):=by
 intro φ ρ Z s E Q H N
 rw [OS] at N
 exact wpAny_Return_some ((he st).BH H N fun v AL rv AY Ad AH AO vv H1 _ N1=>N1.pure H1 (.ret vv) AO)
theorem dI:BO AB w A AA (exec (.Return none pos) AA) st (Ih.f (step ih) (.ex (.Return none pos)) st):=by
 intro φ ρ Z s E Q H N
 rw [aP] at N
 exact wpAny_Return_none (N.pure H (.ret .none) s.toks)
theorem cS:BO AB w A AA (exec (.Break pos) AA) st (Ih.f (step ih) (.ex (.Break pos)) st):=by
 intro φ ρ Z s E Q H N
 rw [aL] at N
 exact wpAny_Break (N.pure H .brk s.toks)
theorem cV:BO AB w A AA (exec (.Continue pos) AA) st (Ih.f (step ih) (.ex (.Continue pos)) st):=by
 intro φ ρ Z s E Q H N
 rw [aM] at N
 exact wpAny_Continue (N.pure H .cont s.toks)
theorem dF:BO AB w A AA (exec (.Pass pos) AA) st (Ih.f (step ih) (.ex (.Pass pos)) st):=by
 intro φ ρ Z s E Q H N
 rw [aN] at N
 exact wpAny_Pass (N.pure H .next s.toks)
theorem cK (ht:∀st,Bm AB w A AA (isTrue t AA (eval t AA)) st (ih.b (.ts t) st)):BO AB w A AA (exec (.Assert t m pos) AA) st (Ih.f (step ih) (.ex (.Assert t m pos)) st):=by
 intro φ ρ Z s E Q H N
 rw [aH] at N
 refine wpAny_Assert_holds ((ht st).BH H N fun c AL AY Ad AH AO H1 _ N1=>?_)
 induction c using bc with
 |true=>exact ⟨rfl,N1.pure H1 .next AO⟩
 |false=>exact N1.Bd.elim
theorem nT (H:AK AB w A AA Z φ ρ st h):interactive AA=false:=by
 have:=H.er.kind
 unfold interactive
 rw [this];rfl
theorem cY (he:∀st,Au AB w A AA (eval e AA) st (ih.v (.ev e) st)) :
  BO AB w A AA (exec (.Expr e pos) AA) st (Ih.f (step ih) (.ex (.Expr e pos)) st):=by
 intro φ ρ Z s E Q H N
 rw [Lz] at N
 by_cases hc:EZ e=true
 .rw [ak hc] at N;exact N.Bd.elim
 .rw [aj hc] at N
  exact wpAny_Expr_any ((he st).BH H N fun v AL rv AY Ad AH AO vv H1 _ N1=>N1.pure H1 .next AO) (nT H) (u9 (by simpa using hc))
theorem Py:∀{ρ:AZ},(Aa ρ).Nodup->∀{i j:Nat} {p q:Addr × Option Addr},ρ[i]? = some p->ρ[j]? = some q->i≠j->∀{a b:Addr},(a=p.1\/p.2=some a)->(b=q.1\/q.2=some b)->a≠b:=by
 intro xG
 induction xG with
 |nil=>
  intro _ _ _ _ _ hi _ _ _ _ _ _
  exact nn hi
 |cons x ρ AU=>
  intro nd i j p q hi hj ne a b ha hb
  have Px:((x.1::x.2.toList)++Aa ρ).Nodup:=nd
  obtain ⟨_,n2,n3⟩:=List.nodup_append.mp Px
  have hx:∀{y:Addr},(y=x.1\/x.2=some y)->y∈x.1::x.2.toList:=fun {y} hy=>by
   rcases hy with rfl | hy
   .exact .head _
   .exact .tail _ (by rw [hy];exact .head _)
  induction i using zc with
  |zero=>
   simp only [List.getElem?_cons_zero,Option.some.injEq] at hi
   subst hi
   induction j using zc with
   |zero=>exact absurd rfl ne
   |succ j=>exact n3 a (hx ha) b (DV (by simpa using hj) hb)
  |succ i=>
   induction j using zc with
   |zero=>
    simp only [List.getElem?_cons_zero,Option.some.injEq] at hj
    subst hj
    exact Ne.symm (n3 b (hx hb) a (DV (by simpa using hi) ha))
   |succ j=>exact AU n2 (by simpa using hi) (by simpa using hj) (fun e=>ne (by rw [e])) ha hb
theorem UK (k:∀b o,h.get? b=some o->h'.get? b=some o) (a:Addr) (n:h.get? a≠none):h'.get? a≠none:=by
 induction e:h.get? a using oc with
 |none=>exact absurd e n
 |some x=>rw [k a x e];exact fun q=>by cases q
theorem AK.Kl (H:AK AB w A AA Z φ ρ st h) (k:∀b x,h.get? b=some x->h'.get? b=some x) (hn:h.get? a=none) (he:h'.get? a=some o):Al AB w A AA Z φ ρ st h (put φ a o) ρ st h':=by
 have O4:φ a=none:=by
  induction e:φ a using oc with
  |none=>rfl
  |some x=>exact absurd (H.rel.fz _ _ e) (by rw [hn];exact fun q=>by exact nn q)
 have le:Le φ (put φ a o):=fun b x e=>by
  unfold put
  rw [aj (fun q=>by rw [q,O4] at e;exact nn e)]
  exact e
 have newF:∀b x,put φ a o b=some x->φ b=none->h.get? b=none:=fun b x e n=>by
  unfold put at e
  by_cases q:b=a
  .rw [q];exact hn
  .rw [aj q,n] at e;exact nn e
 have live:=UK k
 have ext:Ext φ ρ h Z (put φ a o) ρ h':=⟨le,.refl _,newF,fun a ha hn=>absurd ha hn,live,fun b x e _ _=>.inl (k b x e)⟩
 refine ⟨⟨fun b x e=>?_,H.rel.len,fun i x p e1 e2=>(H.rel.ob i x p e1 e2).mono le (.refl _) fun a _ y e=>k _ _ e,H.rel.nd,fun b hb=>?_,fun a ha=>live a (H.rel.th a ha)⟩,
  H.er.mono le (.refl _) (fun b x e _=>⟨x.slots,k b x e⟩) live newF (fun a ha hn=>absurd ha hn) rfl rfl,
  H.amb.after ext fun b _ o es n e q=>⟨o,es,n,k b o e,q⟩,ext,rfl,rfl,rfl,rfl⟩
 .unfold put at e
  by_cases q:b=a
  .rw [ak q] at e;obtain rfl:=aa e;rw [q];exact he
  .rw [aj q] at e;exact k _ _ (H.rel.fz _ _ e)
 .unfold put
  rw [aj (fun q=>H.rel.th b hb (by rw [q];exact hn))]
  exact H.rel.ap b hb
theorem AK.Ll (H:AK AB w A AA Z φ ρ st h) (x:O) (k:∀b x,h.get? b=some x->h'.get? b=some x) (hn:h.get? a=none) (ha:h'.get? a≠none)
  (hd:∀b,d=some b->h.get? b=none/\h'.get? b≠none/\b≠a) (ho:OR AB w φ (ρ++[(a,d)]) h' (a,d) x) (Bc:st.lo<=st.hp.length) :
  Al AB w A AA Z φ ρ st h φ (ρ++[(a,d)]) {st with hp:=st.hp++[x]} h':=by
 have O4:∀b,h.get? b=none->φ b=none:=fun b hb=>by
  induction e:φ b using oc with
  |none=>rfl
  |some x=>exact absurd (H.rel.fz _ _ e) (by rw [hb];exact fun q=>by exact nn q)
 have pf:Pf ρ (ρ++[(a,d)]):=⟨_,rfl⟩
 have ad:Aa (ρ++[(a,d)])=Aa ρ++(a::d.toList):=by rw [KS];simp [Aa]
 have new:∀b∈a::d.toList,h.get? b=none/\h'.get? b≠none:=fun b hb=>by
  rcases List.mem_cons.mp hb with rfl | hb
  .exact ⟨hn,ha⟩
  .have:d=some b:=by simpa using hb
   exact ⟨(hd b this).1,(hd b this).2.1⟩
 have live:=UK k
 have newR:∀b∈Aa (ρ++[(a,d)]),b∉Aa ρ->h.get? b=none:=fun b hb Ig=>by
  rw [ad] at hb
  rcases List.mem_append.mp hb with hb | hb
  .exact absurd hb Ig
  .exact (new b hb).1
 have ext:Ext φ ρ h Z φ (ρ++[(a,d)]) h':=⟨.refl _,pf,fun a x e n=>(by rw [n] at e;exact nn e),newR,live,fun b x e _ _=>.inl (k b x e)⟩
 refine ⟨⟨fun b x e=>k _ _ (H.rel.fz _ _ e),by simp [H.rel.len],fun i y p e1 e2=>?_,?_,fun b hb=>?_,fun b hb=>?_⟩,
  H.er.mono (.refl _) pf (fun b x e _=>⟨x.slots,k b x e⟩) live (fun a x e n=>by rw [n] at e;exact nn e) newR rfl rfl,
  H.amb.after ext fun b _ o es n e q=>⟨o,es,n,k b o e,q⟩,ext,rfl,rfl,rfl,by simp only [List.take_append_of_le_length Bc]⟩
 .by_cases hi:i<ρ.length
  .rw [bw hi] at e2
   simp only [bw (H.rel.len ▸ hi)] at e1
   exact (H.rel.ob i y p e1 e2).mono (.refl _) pf fun a _ z e=>k _ _ e
  .have DS:i=ρ.length:=by
    have:=(List.getElem?_eq_some_iff.mp e2).1
    simp at this;lia
   subst DS
   simp only [List.getElem?_append_right (ao _),Nat.sub_self,List.getElem?_cons_zero,Option.some.injEq] at e2
   subst e2
   rw [H.rel.len] at e1
   simp at e1
   subst e1
   exact ho
 .rw [ad]
  refine List.nodup_append.mpr ⟨H.rel.nd,?_,fun b hb c hc q=>H.rel.th b hb (q ▸ (new c hc).1)⟩
  induction d using oc with
  |none=>simp
  |some b=>simp only [Option.toList_some,List.nodup_cons,List.mem_singleton,List.not_mem_nil,not_false_eq_true,List.nodup_nil,and_true];exact Ne.symm (hd b rfl).2.2
 .rw [ad] at hb
  rcases List.mem_append.mp hb with hb | hb
  .exact H.rel.ap b hb
  .exact O4 b (new b hb).1
 .rw [ad] at hb
  rcases List.mem_append.mp hb with hb | hb
  .exact live b (H.rel.th b hb)
  .exact (new b hb).2
theorem AK.change (H:AK AB w A AA Z φ ρ st h) (hp:ρ[i]? = some p) (x:O) (Bc:st.lo<=i)
  (k:∀b o,h.get? b=some o->b≠p.1->p.2≠some b->h'.get? b=some o) (h1:h'.get? p.1≠none) (h2:∀d,p.2=some d->h'.get? d≠none) (ho:OR AB w φ ρ h' p x) :
  Al AB w A AA Z φ ρ st h φ ρ {st with hp:=st.hp.set i x} h':=by
 have off:∀b,b∉Aa ρ->b≠p.1/\p.2≠some b:=fun b hb=>⟨fun e=>hb (DV hp (.inl e)),fun e=>hb (DV hp (.inr e))⟩
 have live:∀a,h.get? a≠none->h'.get? a≠none:=fun a n=>by
  by_cases e1:a=p.1
  .rw [e1];exact h1
  .by_cases e2:p.2=some a
   .exact h2 a e2
   .induction e:h.get? a using oc with
    |none=>exact absurd e n
    |some o=>rw [k a o e e1 e2];exact fun q=>by cases q
 have keep:∀b o,h.get? b=some o->b∉Aa ρ->h'.get? b=some o:=fun b o e n=>k b o e (off b n).1 (off b n).2
 have ext:Ext φ ρ h Z φ ρ h':=⟨.refl _,.refl _,fun a x e n=>(by rw [n] at e;exact nn e),fun a ha hn=>absurd ha hn,live,fun b o e n _=>.inl (keep b o e n)⟩
 refine ⟨⟨fun b o e=>keep b o (H.rel.fz _ _ e) (fun m=>by rw [H.rel.ap b m] at e;exact nn e),by simp [H.rel.len],fun j y q e1 e2=>?_,H.rel.nd,H.rel.ap,fun a ha=>live a (H.rel.th a ha)⟩,
  H.er.mono (.refl _) (.refl _) (fun b o e n=>⟨o.slots,keep b o e n⟩) live (fun a x e n=>(by rw [n] at e;exact nn e)) (fun a ha hn=>absurd ha hn) rfl rfl,
  H.amb.after ext fun b hb o es n e q=>⟨o,es,n,keep b o e (H.er.zr b hb).1,q⟩,ext,rfl,rfl,rfl,by simp only [List.take_set,List.set_eq_of_length_le (bg (List.length_take_le _ _) Bc)]⟩
 by_cases Ic:i=j
 .subst Ic
  rw [hp] at e2
  obtain rfl:=aa e2
  have:i<st.hp.length:=by rw [<-H.rel.len];exact (List.getElem?_eq_some_iff.mp hp).1
  simp only [List.getElem?_set_self this,Option.some.injEq] at e1
  subst e1
  exact ho
 .simp only [List.getElem?_set_ne Ic] at e1
  exact (H.rel.ob j y q e1 e2).mono (.refl _) (.refl _) fun a ha z e=>k a z e (Py H.rel.nd e2 hp (Ne.symm Ic) ha (.inl rfl)) fun e'=>Py H.rel.nd e2 hp (Ne.symm Ic) ha (.inr e') rfl
end
section
open PySem PySem.W PyProof.Rows PySem.Calls
variable (AB:Program) (w:World) (A:Around) (AA:Env)
def HF:Prop:=∀(o v:V) (a:Str) (ro rv:Value) (φ:Fz) (ρ:AZ) (Z:List Addr) (st:S) (s:Shared) (E:Value->Shared->Prop) (Q:Unit->Shared->Prop),
 AK AB w A AA Z φ ρ st s.heap->VR w.params φ ρ ro o->VR w.params φ ρ rv v->BK AB w A AA Z φ ρ st s (H6 o a v st) Q E->wpAny (model AB w) A (setAttr ro a rv) Q E s
def IF:Prop:=∀(o i v:V) (ro ri rv:Value) (φ:Fz) (ρ:AZ) (Z:List Addr) (st:S) (s:Shared) (E:Value->Shared->Prop) (Q:Unit->Shared->Prop),
 AK AB w A AA Z φ ρ st s.heap->VR w.params φ ρ ro o->VR w.params φ ρ ri i->VR w.params φ ρ rv v->BK AB w A AA Z φ ρ st s (I0 o i v st) Q E->wpAny (model AB w) A (setItem ro ri rv) Q E s
def Q9:Prop:=∀(o i:V) (ro ri:Value) (φ:Fz) (ρ:AZ) (Z:List Addr) (st:S) (s:Shared) (E:Value->Shared->Prop) (Q:Unit->Shared->Prop),
 AK AB w A AA Z φ ρ st s.heap->VR w.params φ ρ ro o->VR w.params φ ρ ri i->BK AB w A AA Z φ ρ st s (F6 o i st) Q E->wpAny (model AB w) A (delItem ro ri) Q E s
def RA:Prop:=∀(o:V) (a:Str) (aug:Bool) (ro:Value) (φ:Fz) (ρ:AZ) (Z:List Addr) (st:S) (s:Shared) (E:Value->Shared->Prop) (Q:Value->Shared->Prop),
 AK AB w A AA Z φ ρ st s.heap->VR w.params φ ρ ro o->As AB w A AA Z φ ρ st s (FP o a st) Q E->wpAny (model AB w) A (getAttr ro a aug) Q E s
end
section
open PySem PySem.W PyProof.Rows PySem.Calls
variable {AB:Program} {w:World} {A:Around} {AA:Env} {Z:List Addr} {φ AE:Fz} {ρ ρ':AZ} {st st':S} {h h' Ax AS AH:Heap} {s:Shared} {E:Value->Shared->Prop} {ih:Ih} {o i t e u:Expr} {a x:Str} {p pos:Pos} {Q:Unit->Shared->Prop} {P:Params} {b v:V} {α:Type} {es r ts:List Expr} {k line:Nat} {f:Int->Int->Option Int} {op:Operator} {ra rb fl:Value} {l:List Env} {c:String}
theorem xB {M:Model} {v:Value} (h:wpAny M A (eval o AA) (fun ov Ay=>wpAny M A (setAttr ov a v) Q E Ay) E s):wpAny M A (assign (.Attribute o a p) AA v) Q E s:=by
 show wpAny M A (do
  let ov <- holding [v] (eval o AA)
  standAt p.atName
  holding [v,ov] (setAttr ov a v)
  release [v,ov] []) Q E s
 exact ah (bh (b9 h (fun ov Ay AH=>ah (wpAny_standAt (ah (bh (b9 AH (fun _ _ q=>wpAny_release q) fun _ _ x=>x))))) fun _ _ x=>x))
theorem xC {M:Model} {v:Value} (h:wpAny M A (eval o AA) (fun ov Ay=>wpAny M A (eval i AA) (fun iv BX=>wpAny M A (setItem ov iv v) Q E BX) E Ay) E s):wpAny M A (assign (.Subscript o i p) AA v) Q E s:=by
 rw [arm_assign_Subscript]
 exact ah (bh (b9 h (fun ov Ay AH=>ah (bh (b9 AH (fun iv BX AR=>ah (wpAny_standAt (ah (bh (b9 AR (fun _ _ q=>wpAny_release q) fun _ _ x=>x))))) fun _ _ x=>x))) fun _ _ x=>x))
theorem VR.WY {a:V} {rv:Value} (h:VR P φ ρ rv (.tup [a,b])):∃t xs n x y,rv = .ref t/\φ t=some (E8 xs n)/\xs.toList=[x,y]/\VR P φ ρ x a/\VR P φ ρ y b:=by
 obtain ⟨t,xs,n,hf,hl,rfl⟩:=h.E9
 obtain ⟨x,r,h1,t1,e1⟩:=hl.Bx
 obtain ⟨y,r,h2,t2,rfl⟩:=t1.Bx
 rw [t2.Co] at e1
 exact ⟨t,xs,n,x,y,rfl,hf,e1,h1,h2⟩
theorem Xx {m:M α} {o:Out α} (h:Er m st=some o):st.hd=0:=by
 by_cases q:st.hd=0
 .exact q
 .exact nn ((aj q).symm.trans h)
theorem vI {o:Out Unit} (h:Ci ih v t st=some o):(∃x p,t = .Name x p)\/(∃b a p,t = .Attribute b a p)\/(∃b i p,t = .Subscript b i p)\/∃es k p,t = .Tuple es k p:=by
 induction t using Expr.casesOn with
 |Name x p=>exact .inl ⟨x,p,rfl⟩
 |Attribute b a p=>exact .inr (.inl ⟨b,a,p,rfl⟩)
 |Subscript b i p=>exact .inr (.inr (.inl ⟨b,i,p,rfl⟩))
 |Tuple es k p=>exact .inr (.inr (.inr ⟨es,k,p,rfl⟩))
 |_=>exact nn h
theorem dY {rv:Value} (H:AK AB w A AA Z φ ρ st s.heap) (hv:VR w.params φ ρ rv v) (N:BK AB w A AA Z φ ρ st s (assign2 v es st) Q E) :
  wpAny (model AB w) A (assign (.Tuple es k p) AA rv) Q E s:=by
 obtain ⟨o,e⟩:=N.get
 obtain ⟨x,a,e1,e2,e3⟩:=EM e
 have hh:=Xx e3
 obtain ⟨px,py,rfl⟩:=nG e1
 obtain rfl:=Uw e2
 have N':BK AB w A AA Z φ ρ st s (AD (store x.1 a.1) (fun _=>store x.2 a.2) st) Q E:=N.cast ((congrFun (YJ e1 e2) st).trans (ak hh))
 clear N e e1 e2 e3
 obtain ⟨t,xs,n,rx,ry,rfl,ht,hx,v1,v2⟩:=hv.WY
 have CQ:xs.size=2:=by rw [<-az,hx];rfl
 refine PySem.wpAny_assign_Tuple (items:=xs) (H.amb.hd.1 hh) ⟨_,H.rel.fz _ _ ht,rfl,_,rfl⟩ (by rw [CQ];rfl) rfl fun AH hk=>?_
 have Ah:=H.grow fun b o e=>hk b o (Nat.ne_of_lt (Heap.lt_size e)) e
 rw [hx]
 refine wpAny_assignInOrder_more (wpAny_assign_Name (Hh (s:={s with heap:=AH}) (H.after Ah) v1 ((N'.after Ah s.toks).G5 fun u st2 Ab Ae AR tk AW N2=>?_)))
 exact wpAny_assignInOrder_more (wpAny_assign_Name (b9 (Hh ((H.after Ah).after AW) (v2.mono AW.ext.le AW.ext.pf) N2) (fun _ _ q=>wpAny_assignInOrder_none q) fun _ _ x=>x))
theorem Kp (he:∀e st,Au AB w A AA (eval e AA) st (ih.v (.ev e) st)) (hA:HF AB w A AA) (hS:IF AB w A AA) {rv:Value}
  (H:AK AB w A AA Z φ ρ st s.heap) (hv:VR w.params φ ρ rv v) (N:BK AB w A AA Z φ ρ st s (Ci ih v t st) Q E):wpAny (model AB w) A (assign t AA rv) Q E s:=by
 obtain ⟨_,e⟩:=N.get
 obtain ⟨x,p,rfl⟩ | ⟨b,a,p,rfl⟩ | ⟨b,i,p,rfl⟩ | ⟨es,k,p,rfl⟩:=vI e
 .exact wpAny_assign_Name (Hh H hv N)
 .exact xB ((he _ st).Fq H N fun ov AL ro AY Ad AH AO vo H1 Ah N1=>hA _ _ _ _ _ _ _ _ _ _ _ _ H1 vo (hv.mono Ah.ext.le Ah.ext.pf) N1)
 .refine xC ((he _ st).Fq H N fun ov AL ro AY Ad AH AO vo H1 Ah N1=>(he _ AL).Fq H1 N1 fun iv st2 ri Ab Ae AR Aw vi H2 AW N2=>?_)
  exact hS _ _ _ _ _ _ _ _ _ _ _ _ _ H2 (vo.mono AW.ext.le AW.ext.pf) vi ((hv.mono Ah.ext.le Ah.ext.pf).mono AW.ext.le AW.ext.pf) N2
 .exact dY H hv N
noncomputable def isName:Expr->Bool
 | .Name ..=>true
 |_=>false
theorem vA (h:EZ e=false\/isName t=false):swapsWith e (some t) line AA=pure false:=by
 rcases h with h | h
 .induction e using Expr.casesOn <;> first | rfl | exact Bool.noConfusion (h:true=false)
 .induction e using Expr.casesOn <;> first | rfl | (induction t using Expr.casesOn <;> first | rfl | exact Bool.noConfusion (h:true=false))
theorem u5 (h:EC [t] e=true):swappedStores [t] e AA=pure none:=by
 induction t using Expr.casesOn <;> first | rfl | (induction e using Expr.casesOn <;> first | rfl | exact Bool.noConfusion (h:false=true))
theorem u6:swappedStores [t,u] e AA=pure none:=by
 first | rfl | (induction t using Expr.casesOn <;> rfl)
theorem OH (h:Bk t=false):assignEach (t::r) AA=(false,assign t AA)::assignEach r AA:=by
 induction t using Expr.casesOn <;> first | rfl | (cases h;done)
theorem P5 {a b:Bool} (h:(!a&&b)=true):a=false:=by induction a using bc with
 |false=>rfl
 |true=>exact Bool.noConfusion h
theorem Zy (h:EC [t] e=true):(assignEach [t] AA).map (·.2)=[assign t AA]:=by
 rw [OH (P5 h)];rfl
theorem Zz (h:EC [t,u] e=true):(assignEach [t,u] AA).map (·.2)=[assign t AA,assign u AA]:=by
 have h:(!Bk t && !Bk u)=true:=h
 rw [OH (P5 h),OH (P5 ((Bool.and_comm _ _).trans h))];rfl
theorem dZ (he:∀e st,Au AB w A AA (eval e AA) st (ih.v (.ev e) st)) (hA:HF AB w A AA) (hS:IF AB w A AA) {rv:Value}
  (hp:EC ts e=true) (H:AK AB w A AA Z φ ρ st s.heap) (hv:VR w.params φ ρ rv v) (N:BK AB w A AA Z φ ρ st s (HO ih v ts st) Q E):wpAny (model AB w) A (assignAll rv ((assignEach ts AA).map (·.2))) Q E s:=by
 match ts with
 | []=>exact Bool.noConfusion hp
 | [t]=>
  rw [Zy hp]
  have N':BK AB w A AA Z φ ρ st s (AD (Ci ih v t) (fun _=>AF ()) st) Q E:=N
  rw [HQ] at N'
  exact Kp he hA hS H hv N'
 | [t,u]=>
  rw [Zz hp]
  have N':BK AB w A AA Z φ ρ st s (AD (Ci ih v t) (fun _=>AD (Ci ih v u) (fun _=>AF ())) st) Q E:=N
  rw [HQ] at N'
  refine ah (bh ?_)
  refine Kp he hA hS H hv (N'.G5 fun _ AL AY Ad AH tk Ah N1=>?_)
  exact Kp he hA hS (H.after Ah) (hv.mono Ah.ext.le Ah.ext.pf) N1
 |t::u::x::r=>exact Bool.noConfusion hp
theorem cL (he:∀e st,Au AB w A AA (eval e AA) st (ih.v (.ev e) st)) (hm:∀e st,Au AB w A AA (eval e AA) st (ih.v (.evm e) st)) (hA:HF AB w A AA) (hS:IF AB w A AA)
  (hp:EC ts e=true) (hc:swapsWithSole ts e pos.line AA=pure false) :
  BO AB w A AA (exec (.Assign ts e pos) AA) st (Ih.f (step ih) (.ex (.Assign ts e pos)) st):=by
 intro φ ρ Z s E Q H N
 rw [IW hp] at N
 have hw:swappedStores ts e AA=pure none:=by
  match ts with
  | []=>exact Bool.noConfusion hp
  | [t]=>exact u5 hp
  | [t,u]=>exact u6
  |t::u::x::r=>exact Bool.noConfusion hp
 have g:∀st,Au AB w A AA (eval e AA) st (ih.v (if Dl e then .evm e else .ev e) st):=fun st=>by
  induction Dl e using bc with
  |true=>exact hm e st
  |false=>exact he e st
 refine wpAny_Assign_stores ((g st).BH H N fun v AL rv AY Ad AH AO vv H1 Ah N1=>?_) hc hw
 refine dZ he hA hS hp H1 vv (N1.G5 fun _ st2 Ab Ae AR tk AW N2=>N2.pure (H1.after AW) .next tk)
theorem PR {a:V} {o:Out V} (h:FZ f a b st=some o):∃x y z,a = .int x/\b = .int y/\f x y=some z/\o = .ok (.int z) st:=by
 obtain ⟨x,y,e1,e2,e3⟩:=EM h
 induction q:f x y using oc with
 |none=>rw [q] at e3;exact nn e3
 |some z=>rw [q] at e3;exact ⟨x,y,z,V.FY e1,V.FY e2,q,B6 e3⟩
theorem T9 {a:V} {Q:Value->Shared->Prop} (H:AK AB w A AA Z φ ρ st s.heap) (va:VR w.params φ ρ ra a) (vb:VR w.params φ ρ rb b) (N:As AB w A AA Z φ ρ st s (FD op a b st) Q E) :
  wpAny (model AB w) A (inplaceOp op ra rb) Q E s:=by
 obtain ⟨o,e⟩:=N.get
 have h:op = .Add\/op = .Sub:=by
  induction op using Operator.casesOn with
  |Add=>exact .inl rfl
  |Sub=>exact .inr rfl
  |_=>exact nn e
 rcases h with rfl | rfl
 .obtain ⟨x,y,z,rfl,rfl,e1,rfl⟩:=PR (show FZ (fun x y=>some (x+y)) a b st=some o from e)
  obtain ⟨t,rfl⟩:=va.B3
  obtain ⟨u,rfl⟩:=vb.B3
  rw [<-aa e1] at e
  exact PyProof.Rows.iadd_int ((N.cast e).pure H (.int _ _) _)
 .obtain ⟨x,y,z,rfl,rfl,e1,rfl⟩:=PR (show FZ (fun x y=>some (x-y)) a b st=some o from e)
  obtain ⟨t,rfl⟩:=va.B3
  obtain ⟨u,rfl⟩:=vb.B3
  rw [<-aa e1] at e
  exact PyProof.Rows.isub_int ((N.cast e).pure H (.int _ _) _)
theorem cQ (he:∀e st,Au AB w A AA (eval e AA) st (ih.v (.ev e) st)) :
  BO AB w A AA (exec (.AugAssign (.Name x p) op e pos) AA) st (Ih.f (step ih) (.ex (.AugAssign (.Name x p) op e pos)) st):=by
 intro φ ρ Z s E Q H N
 rw [aK] at N
 by_cases hx:Cd x=true
 case neg=>rw [aj hx] at N;exact N.Bd.elim
 rw [ak hx] at N
 refine wpAny_AugAssign_Name ((Oe (Mc hx).2).BH H N fun a AL ra AY Ad AH AO va H1 Ah N1=>(he e AL).BH H1 N1 fun b st2 rb Ab Ae AR Aw vb H2 AW N2=>?_)
 refine T9 H2 (va.mono AW.ext.le AW.ext.pf) vb (N2.seq fun c CH rc B9 B8 BE tk vc BB N3=>?_)
 have H3:=H2.after BB
 refine Hh H3 vc (N3.G5 fun _ I4 HE HD Cr tk Bq N4=>N4.pure (H3.after Bq) .next tk)
theorem cP (he:∀e st,Au AB w A AA (eval e AA) st (ih.v (.ev e) st)) (hG:RA AB w A AA) (hA:HF AB w A AA) :
  BO AB w A AA (exec (.AugAssign (.Attribute o a p) op e pos) AA) st (Ih.f (step ih) (.ex (.AugAssign (.Attribute o a p) op e pos)) st):=by
 intro φ ρ Z s E Q H N
 rw [aJ] at N
 refine wpAny_AugAssign_AttributeAny ((he o st).BH H N fun ov st0' ro BS ρ0 AS t0 vo H0 p0 N0=>?_)
 refine hG _ _ _ _ _ _ _ _ _ _ _ H0 vo (N0.seq fun old AL ra AY Ad AH AO va Ah N1=>?_)
 have H1:=H0.after Ah
 refine (he e AL).BH (s:={s with heap:=AH,toks:=AO}) H1 N1 fun b st2 rb Ab Ae AR Aw vb H2 AW N2=>?_
 refine T9 H2 (va.mono AW.ext.le AW.ext.pf) vb (N2.seq fun c CH rc B9 B8 BE tk vc BB N3=>?_)
 have H3:=H2.after BB
 have T6:=(Ah.ext.trans (AW.ext.trans BB.ext))
 refine hA _ _ _ _ _ _ _ _ _ _ _ _ H3 (vo.mono T6.le T6.pf) vc (N3.G5 fun _ I4 HE HD Cr tk Bq N4=>N4.pure (H3.after Bq) .next tk)
theorem cW (he:∀e st,Au AB w A AA (eval e AA) st (ih.v (.ev e) st)) (hD:Q9 AB w A AA) :
  BO AB w A AA (exec (.Delete [.Subscript o i p] pos) AA) st (Ih.f (step ih) (.ex (.Delete [.Subscript o i p] pos)) st):=by
 intro φ ρ Z s E Q H N
 rw [SV] at N
 refine wpAny_Delete (wpAny_deleteEach_cons ?_)
 show wpAny _ A (do
  let ov <- eval o AA
  let iv <- holding [ov] (eval i AA)
  standAt p
  holding [ov,iv] (delItem ov iv)
  release [ov,iv] []) _ _ s
 refine ah ((he o st).BH H N fun ov AL ro AY Ad AH AO vo H1 Ah N1=>ah (bh ((he i AL).BH H1 N1 fun iv st2 ri Ab Ae AR Aw vi H2 AW N2=>?_)))
 refine ah (wpAny_standAt (ah (bh ?_)))
 refine hD _ _ _ _ _ _ _ _ _ _ _ H2 (vo.mono AW.ext.le AW.ext.pf) vi (N2.G5 fun _ CH B9 B8 BE tk BB N3=>?_)
 exact wpAny_release (wpAny_deleteEach_nil (N3.pure (H2.after BB) .next tk))
theorem ER.Jf (X:ER P φ ρ AA Z st h) (l:Le φ AE) (q:Pf ρ ρ') (k:∀b o,h.get? b=some o->b∉Aa ρ->(∀vs,o.data≠.fields vs)->∃sl,h'.get? b=some {o with slots:=sl}) (live:∀a∈Z,h'.get? a≠none)
  (newF:∀a o,AE a=some o->φ a=none->h.get? a=none) (newR:∀a∈Aa ρ',a∉Aa ρ->h.get? a=none) (e1:st'.AA=st.AA) (e2:st'.sc=st.sc):ER P AE ρ' AA Z st' h':=by
 have off:∀a,h.get? a≠none->a∉Aa ρ->φ a=none->a∉Aa ρ'/\AE a=none:=fun a ha hn hp=>by
  refine ⟨fun hm=>ha (newR a hm hn),?_⟩
  induction e:AE a using oc with
  |none=>rfl
  |some o=>exact absurd (newF a o e hp) ha
 refine ⟨X.kind,X.gl,X.bl,by rw [e2];exact X.cd,by rw [e2];exact X.kl,by rw [e2];exact X.kc,by rw [e2];exact X.kf,by rw [e2];exact X.kg,?_,?_,by rw [e2];exact X.inj,X.zl,?_⟩
 .obtain ⟨m,⟨o,es,ep,ho,hd,r⟩,hm⟩:=X.ns
  obtain ⟨sl,Ii⟩:=k _ _ ho (X.zr _ X.zl).1 (fun vs z=>by rw [hd] at z;cases z)
  refine ⟨m,⟨_,es,ep,Ii,hd,r⟩,?_⟩
  rw [e1,e2]
  intro x v hx hv
  obtain ⟨rv,a,b⟩:=hm x v hx hv
  exact ⟨rv,a,b.mono l q⟩
 .rw [e1,e2]
  intro x hx
  obtain ⟨c,ov,a1,⟨o,ho,hd⟩,a3,a4,a5,a6⟩:=X.ce x hx
  obtain ⟨z1,z2⟩:=off c (A8 ho) a4 a5
  obtain ⟨sl,Ii⟩:=k _ _ ho a4 (fun vs z=>by rw [hd] at z;cases z)
  exact ⟨c,ov,a1,⟨_,Ii,hd⟩,fun v hv=>let ⟨rv,b1,b2⟩:=a3 v hv;⟨rv,b1,b2.mono l q⟩,z1,z2,a6⟩
 .intro a ha
  obtain ⟨z1,z2,z3⟩:=X.zr a ha
  obtain ⟨y1,y2⟩:=off a z3 z1 z2
  exact ⟨y1,y2,live a ha⟩
noncomputable def GA (l:List Env):List Addr:=l.filterMap (·.frame)
theorem Al.stir (H:AK AB w A AA Z φ ρ st h) (p:Al AB w A AA Z φ ρ st h AE ρ' st' h') (hl:A.frames=some l) (X:List Addr)
  (hX:∀a∈X,h.get? a=none/\a∉Aa ρ'/\AE a=none/\∃o vs,h'.get? a=some o/\o.data = .fields vs)
  (k:∀b o,h'.get? b=some o->b∉X->b∉GA l->Ax.get? b=some o)
  (kf:∀b o,h'.get? b=some o->b∈GA l->∃sl,Ax.get? b=some {o with slots:=sl}):Al AB w A AA Z φ ρ st h AE ρ' st' Ax:=by
 obtain ⟨l',EV,A6⟩:=p.amb.fr
 cases Be hl EV
 have offF:∀b∈GA l,b∉Aa ρ'/\AE b=none:=fun b hb=>by
  obtain ⟨e,he,hb⟩:=List.mem_filterMap.mp hb
  obtain ⟨_,L,o,a1,a2,a3,a4,a5⟩:=A6 e he
  cases Be a1 hb
  exact ⟨a4,a5⟩
 have kr:∀b o,h'.get? b=some o->b∈Aa ρ'->Ax.get? b=some o:=fun b o e m=>k b o e (fun q=>(hX b q).2.1 m) fun q=>(offF b q).1 m
 have ks:∀b o,h'.get? b=some o->b∉X->∃sl,Ax.get? b=some {o with slots:=sl}:=fun b o e n=>by
  by_cases q:b∈GA l
  .exact kf b o e q
  .exact ⟨o.slots,k b o e n q⟩
 have old:∀b,h.get? b≠none->b∉X:=fun b n q=>n (hX b q).1
 have live:∀b,b∉X->h'.get? b≠none->Ax.get? b≠none:=fun b n q=>by
  induction e:h'.get? b using oc with
  |none=>exact absurd e q
  |some o=>obtain ⟨sl,e'⟩:=ks b o e n;exact A8 e'
 refine ⟨⟨fun b o e=>k b o (p.rel.fz _ _ e) (fun q=>by rw [(hX b q).2.2.1] at e;exact nn e) (fun q=>by rw [(offF b q).2] at e;exact nn e),p.rel.len,
   fun i o q e1 e2=>(p.rel.ob i o q e1 e2).mono (.refl _) (.refl _) fun a ha x e=>kr a x e (DV e2 ha),p.rel.nd,p.rel.ap,fun a ha=>live a (fun q=>(hX a q).2.1 ha) (p.rel.th a ha)⟩,
  p.er.Jf (.refl _) (.refl _) (fun b o e _ n=>ks b o e fun q=>?_) (fun a ha=>live a (old a (H.er.zr a ha).2.2) (p.er.zr a ha).2.2) (fun a o e n=>by rw [n] at e;exact nn e) (fun a ha hn=>absurd ha hn) rfl rfl,
  ⟨⟨l,hl,fun e he=>⟨(A6 e he).1,?_⟩⟩,⟨p.amb.hd.1,fun q=>?_⟩,p.amb.un⟩,
  ⟨p.ext.le,p.ext.pf,p.ext.newF,p.ext.newR,fun a n=>live a (old a n) (p.ext.live a n),fun b o e n z=>?_⟩,p.lo,p.sc,p.hd,p.pre⟩
 .obtain ⟨_,_,_,o',vs,e',d⟩:=hX b q
  cases Be e e'
  exact n vs d
 .obtain ⟨_,L,o,a1,a2,⟨es,n,a3⟩,a4,a5⟩:=A6 e he
  obtain ⟨sl,b1⟩:=kf L o a2 (List.mem_filterMap.mpr ⟨e,he,a1⟩)
  exact ⟨L,_,a1,b1,⟨es,n,a3⟩,a4,a5⟩
 .obtain ⟨x,ox,vs,a1,a2,a3,a4,a5,a6,a7⟩:=p.amb.hd.2 q
  obtain ⟨x',oB,w6,c1,c2,_⟩:=H.amb.hd.2 (p.hd ▸ q)
  cases Be a1 c1
  obtain ⟨sl,b1⟩:=ks x ox a2 (old x (A8 c2))
  exact ⟨x,_,vs,a1,b1,a3,a4,a5,a6,a7⟩
 .have one:∀o',h'.get? b=some o'->Kept Ax b o':=fun o' e'=>by
   by_cases q:b∈GA l
   .obtain ⟨x,hx,hb⟩:=List.mem_filterMap.mp q
    obtain ⟨_,L,oL,a1,a2,a3,_⟩:=A6 x hx
    cases Be a1 hb
    cases Be a2 e'
    exact .inr ⟨a3,kf b _ a2 q⟩
   .exact .inl (k b o' e' (old b (A8 e)) q)
  rcases p.ext.keep b o e n z with e' | ⟨d,sl,e'⟩
  .exact one o e'
  .obtain ⟨LN,OF⟩:=(one _ e').slots
   exact .inr ⟨d,LN,OF⟩
inductive FA (AS:Heap) (φ:Fz) (ρ:AZ) (h:Heap) (e:Value) (c:String) (fl:Value):Prop
 |mk (a:Addr) (ob:Obj) (vs:Array Value) (e1:e = .ref a) (e2:AS.get? a=none) (e3:a∉Aa ρ) (e4:φ a=none) (e5:h.get? a=some ob) (e6:ob.cls=Et c) (e7:ob.data = .fields vs) (e8:2<vs.size) (e9:c≠"IndexError*"->vs[2]? = some .none)
  (T:Addr) (oT:Obj) (ts:Array Value) (f1:vs[1]? = some (.ref T)) (f2:AS.get? T=none) (f3:T≠a) (f4:T∉Aa ρ) (f5:φ T=none) (f6:h.get? T=some oT) (f7:oT.data = .fields ts) (f8:ts[3]? = some fl)
theorem FA.HY {e:Value} (x:FA AS φ ρ h e c fl) (hf:fl = .none\/∃L,AA.frame=some L/\fl=rawInt L):Em AA AS φ ρ h e c:=by
 obtain ⟨a,ob,vs,e1,e2,e3,e4,e5,e6,e7,e8,e9,T,oT,ts,f1,f2,f3,f4,f5,f6,f7,f8⟩:=x
 exact ⟨a,ob,vs,e1,e2,e3,e4,e5,e6,e7,e8,e9,.inr ⟨T,oT,ts,fl,f1,f2,f3,f4,f5,f6,f7,f8,hf⟩⟩
theorem Ext.old (x:Ext φ ρ h Z AE ρ' h') {b:Addr} (n1:h.get? b≠none) (n2:b∉Aa ρ) (n3:φ b=none):b∉Aa ρ'/\AE b=none:=
 ⟨fun m=>n1 (x.newR b m n2),by
  induction z:AE b using oc with
  |none=>rfl
  |some o=>exact absurd (x.newF b o z n3) n1⟩
theorem FA.keep {AS:Heap} {e:Value} {c:String} {fl:Value} (f:FA AS φ ρ h e c fl) (x:Ext φ ρ h Z AE ρ' h') (hz:∀a∈Z,AS.get? a≠none):FA AS AE ρ' h' e c fl:=by
 obtain ⟨a,ob,vs,e1,e2,e3,e4,e5,e6,e7,e8,e9,T,oT,ts,f1,f2,f3,f4,f5,f6,f7,f8⟩:=f
 obtain ⟨Zv,Zw⟩:=x.old (A8 e5) e3 e4
 obtain ⟨aV,aW⟩:=x.old (A8 f6) f4 f5
 exact ⟨a,ob,vs,e1,e2,Zv,Zw,(x.keep a ob e5 e3 (fun m=>hz a m e2)).exact (fun es n z=>LB e5 z e5 e7),e6,e7,e8,e9,T,oT,ts,f1,f2,f3,aV,aW,
  (x.keep T oT f6 f4 (fun m=>hz T m f2)).exact (fun es n z=>LB f6 z f6 f7),f7,f8⟩
theorem FA.le {e:Value} (l:∀a,AS.get? a≠none->AH.get? a≠none) (f:FA AH φ ρ h e c fl):FA AS φ ρ h e c fl:=by
 have back:∀a,AH.get? a=none->AS.get? a=none:=fun a e=>Classical.byContradiction fun n=>l a n e
 obtain ⟨a,ob,vs,e1,e2,e3,e4,e5,e6,e7,e8,e9,T,oT,ts,f1,f2,f3,f4,f5,f6,f7,f8⟩:=f
 exact ⟨a,ob,vs,e1,back _ e2,e3,e4,e5,e6,e7,e8,e9,T,oT,ts,f1,back _ f2,f3,f4,f5,f6,f7,f8⟩
noncomputable def P1:Heap:={objs:=#[]}
theorem nP (a:Addr):P1.get? a=none:=Heap.get?_none_of_le (Nat.zero_le _)
theorem Sw (A6:∀e∈l,e.scope.kind≠.module/\NV φ ρ h e):h.FunFrames P1 l:=by
 induction l with
 |nil=>exact trivial
 |cons e r ih=>
  obtain ⟨a0,L,o,a1,a2,⟨es,n,a3⟩,_⟩:=A6 e (.head _)
  exact ⟨a0,⟨L,o,a1,nP L,a2,fun vs q=>by rw [a3] at q;cases q⟩,ih fun x hx=>A6 x (.tail _ hx)⟩
end
section
open PySem PySem.W PyProof.Rows PySem.Calls
variable {M:Model} {A:Around} {E:Value->Shared->Prop} {s:Shared} {h:Heap} {AA:Env} {outer:List Env} {L e:Addr} {oe:Obj} {vs:Array Value} {hadNext:Bool} {Q:Unit->Shared->Prop}
theorem Ub {head:Value}
  (A6:A.frames=some (AA::outer)) (hl:s.heap.FunFrames P1 (AA::outer)) (hf:AA.frame=some L)
  (he:s.heap.get? e=some oe) (hd:oe.data = .fields vs) (CQ:1<vs.size)
  (hQ:∀h' T ts,s.heap.get? T=none->T≠e->h'.get? T=some {cls:=.type "traceback",dict:=none,data:=.fields ts}->ts[3]? = some (rawInt L)->h'.get? e=some (oe.mapFields (·.setIfInBounds 1 (.ref T)))->
   (∀b o,s.heap.get? b=some o->b≠e->b∉GA (AA::outer)->h'.get? b=some o)->(∀b o,s.heap.get? b=some o->b∈GA (AA::outer)->∃sl,h'.get? b=some {o with slots:=sl})->Q () {s with heap:=h'}) :
  wpAny M A (do let a <- frameOf AA;let pl <- entryPlaceOf L hadNext;let b <- EntryCells.newEntry head a .none (rawInt L) .none pl;setField (.ref e) 1 b) Q E s:=by
 have TH:e∉GA (AA::outer):=fun hm=>by
  obtain ⟨_,o,ho,gk⟩:=hl.mem hm
  rw [he] at ho;injection ho with ho;subst ho;exact gk vs hd
 refine ah (wpAny_frameOf_fun A6 hl hf fun AH MM=>?_)
 refine ah (wpAny_entryPlaceOf fun pl O8=>?_)
 unfold EntryCells.newEntry newFields
 refine ah (wpAny_newObj_type ?_ (O8.sizeOk5 _ _ _ _ _))
 have TA:AH.get? e=some oe:=(MM.2.1 e TH).trans he
 have TF:=bf (h:=AH) {cls:=.type "traceback",dict:=none,data:=.fields ([head,.ref L,.none,rawInt L,.none]++(if pl.isEmpty then List.replicate 6 Value.none else pl)).toArray} TA
 have S8:AH.objs.size≠e:=Nat.ne_of_gt (Heap.lt_size TA)
 have fL:=Obj.data_mapFields hd (·.setIfInBounds 1 (Value.ref AH.objs.size))
 refine wpAny_setField TF hd CQ (hQ _ AH.objs.size _ (Heap.get?_none_of_le (Nat.le_of_eq MM.1.symm)) S8 ((Heap.get?_update_other _ _ (Ne.symm S8)).trans (au AH rfl)) (by simp) (bz _ TF (Obj.isFreed_of_fields fL)) (fun b o hb fG Oj=>?_) fun b o hb Oj=>?_)
 .rw [Heap.get?_update_other _ _ (Ne.symm fG)]
  exact bf _ ((MM.2.1 b Oj).trans hb)
 .obtain ⟨sl,hs⟩:=MM.2.2 b o hb
  refine ⟨sl,?_⟩
  rw [Heap.get?_update_other _ _ (fun q:e=b=>TH (by rw [q];exact Oj))]
  exact bf _ hs
end
section
open PySem PySem.W PyProof.Rows PySem.Calls
variable {AB:Program} {w:World} {A B:Around} {AA:Env} {Z:List Addr} {φ AE AY:Fz} {ρ ρ' Ad:AZ} {st st' AL:S} {h h' Ax AH:Heap} {s Ay:Shared} {E:Value->Shared->Prop} {Q:Unit->Shared->Prop} {e fl:Value} {c:String} {P:Params} {es:List DictEntry} {l:List (Str × V)} {AO n k:Nat} {L a it:Addr} {outer:List Env} {v x:V} {o:Out (Bool × List V)} {kd:Bool} {xs:Array Value} {α β γ δ:Type} {t target:Expr} {b:List Stmt} {pos:Pos} {H:List O} {C:Fz->AZ->β->α->Prop} {D:Fz->AZ->δ->γ->Prop} {m:M α} {f:α->M γ} {K:β->Shared->Prop}
theorem lM (o:Obj) (f):(o.mapFields f).cls=o.cls:=Obj.cls_mapFields _ _
theorem Ji (A6:A.frames=some (AA::outer)) (hf:AA.frame=some L) (H:AK AB w A AA Z φ ρ st h) (p:Al AB w A AA Z φ ρ st h AE ρ' st' s.heap) (f:Em AA h AE ρ' s.heap e c)
  (hQ:∀Ax,Al AB w A AA Z φ ρ st h AE ρ' st' Ax->FA h AE ρ' Ax e c (rawInt L)->Q () {s with heap:=Ax}):wpAny (model AB w) A (noteFrame e AA) Q E s:=by
 obtain ⟨a,ob,vs,rfl,e2,e3,e4,e5,e6,e7,e8,e9,r⟩:=f
 have h1:1<vs.size:=by lia
 obtain ⟨l',EV,Kr⟩:=p.amb.fr
 cases Be A6 EV
 have fin:∀(AH:Heap) (X:List Addr),(∀x∈X,h.get? x=none/\x∉Aa ρ'/\AE x=none/\∃o vs,s.heap.get? x=some o/\o.data = .fields vs)->a∈X->
   (∀b o,s.heap.get? b=some o->b∉X->AH.get? b=some o)->AH.get? a=some ob->∀Ax T ts,AH.get? T=none->s.heap.get? T=none->T≠a->Ax.get? T=some {cls:=.type "traceback",dict:=none,data:=.fields ts}->ts[3]? = some (rawInt L)->Ax.get? a=some (ob.mapFields (·.setIfInBounds 1 (.ref T)))->
   (∀b o,AH.get? b=some o->b≠a->b∉GA (AA::outer)->Ax.get? b=some o)->(∀b o,AH.get? b=some o->b∈GA (AA::outer)->∃sl,Ax.get? b=some {o with slots:=sl})->Q () {s with heap:=Ax}:=fun AH X hX eg E0 ha1 Ax T ts _ t2 t3 t4 t5 t6 t7 t8=>by
  refine hQ Ax (p.stir H A6 X hX (fun b o q nX nF=>t7 b o (E0 b o q nX) (fun z=>nX (z ▸ eg)) nF) fun b o q nF=>?_) ⟨a,_,vs.setIfInBounds 1 (.ref T),rfl,e2,e3,e4,t6,(lM _ _).trans e6,Obj.data_mapFields e7 _,by simpa using e8,fun z=>by rw [Array.getElem?_setIfInBounds_ne (by decide)];exact e9 z,T,_,ts,by simp [h1],?_,t3,fun m=>p.rel.th T m t2,?_,t4,rfl,t5⟩
  .refine t8 b o (E0 b o q fun z=>?_) nF
   obtain ⟨_,_,_,o',ws,z1,z2⟩:=hX b z
   obtain ⟨e',Bv,hb⟩:=List.mem_filterMap.mp nF
   obtain ⟨_,L',P7,a1,a2,⟨es,n,a3⟩,_⟩:=Kr e' Bv
   cases Be a1 hb
   cases Be a2 z1
   rw [a3] at z2
   cases z2
  .exact Classical.byContradiction fun n=>p.ext.live T n t2
  .induction q:AE T using oc with
   |none=>rfl
   |some o=>exact absurd (p.rel.fz _ _ q) (by rw [t2];exact fun z=>by exact nn z)
 unfold noteFrame
 simp only [hf]
 rcases r with r | ⟨T,oT,ts,fl,f1,f2,f3,f4,f5,f6,f7,f8,f9⟩
 .refine ah (wpAny_field e5 e7 r ?_)
  rw [aj (by decide)]
  exact Ub A6 (Sw Kr) hf e5 e7 h1 fun Ax T ts t1 t2 t3 t4 t5 t6 t7=>fin s.heap [a] (fun x hx=>by rw [List.mem_singleton.mp hx];exact ⟨e2,e3,e4,ob,vs,e5,e7⟩) (.head _) (fun b o q _=>q) e5 Ax T ts t1 t1 t2 t3 t4 t5 t6 t7
 .refine ah (wpAny_field e5 e7 f1 ?_)
  rw [ak (show (Value.ref T != Value.none)=true from by simp)]
  refine ah (wpAny_field f6 f7 f8 ?_)
  rcases f9 with rfl | ⟨L',g1,rfl⟩
  .rw [aj (show ¬ ((Value.none==rawInt L)=true) from by simp [rawInt])]
   have h3:3<ts.size:=(Array.getElem?_eq_some_iff.mp f8).1
   refine ah (wpAny_setField f6 f7 h3 ?_)
   have other:∀b,b≠T->(s.heap.update T (Obj.mapFields (·.setIfInBounds 3 Value.none))).get? b=s.heap.get? b:=fun b hb=>Heap.get?_update_other _ _ (Ne.symm hb)
   have frk:∀e∈AA::outer,e.scope.kind≠.module/\NV AE ρ' (s.heap.update T (Obj.mapFields (·.setIfInBounds 3 Value.none))) e:=fun e' Bv=>by
    obtain ⟨a0,L',P7,a1,a2,⟨es,n,a3⟩,a4,a5⟩:=Kr e' Bv
    refine ⟨a0,L',P7,a1,(other L' fun z=>?_).trans a2,⟨es,n,a3⟩,a4,a5⟩
    exact LB a2 a3 (z ▸ f6) f7
   refine Ub (s:={s with heap:=s.heap.update T (Obj.mapFields (·.setIfInBounds 3 Value.none))}) A6 (Sw frk) hf ((other a (Ne.symm f3)).trans e5) e7 h1 fun Ax T' Fw t1 t2 t3 t4 t5 t6 t7=>?_
   refine fin _ [a,T] (fun x hx=>?_) (.head _) (fun b o q n=>(other b (fun z=>n (z ▸ .tail _ (.head _)))).trans q) ((other a (Ne.symm f3)).trans e5) Ax T' Fw t1 ?_ t2 t3 t4 t5 t6 t7
   .rcases List.mem_cons.mp hx with rfl | hx
    .exact ⟨e2,e3,e4,ob,vs,e5,e7⟩
    .rw [List.mem_singleton.mp hx];exact ⟨f2,f4,f5,oT,ts,f6,f7⟩
   .by_cases z:T'=T
    .have WI:(s.heap.update T (Obj.mapFields (·.setIfInBounds 3 Value.none))).get? T'=none:=t1
     rw [z,bz _ f6 (Obj.isFreed_of_fields (Obj.data_mapFields f7 _))] at WI
     cases WI
    .exact (other T' z).symm.trans t1
  .cases Be hf g1
   rw [ak (show (rawInt L==rawInt L)=true from by simp)]
   exact aq (hQ s.heap p ⟨a,ob,vs,rfl,e2,e3,e4,e5,e6,e7,e8,e9,T,oT,ts,f1,f2,f3,f4,f5,f6,f7,f8⟩)
theorem GQ {o:Option Addr} (H:AK AB w A AA Z φ ρ st h) (p:Al AB w A AA Z φ ρ st h AE ρ' st' s.heap) (f:FA h AE ρ' s.heap e c fl)
  (hQ:∀Ax,Al AB w A AA Z φ ρ st h AE ρ' st' Ax->FA h AE ρ' Ax e c (o.elim .none fun f=>rawInt f)->Q () {s with heap:=Ax}):wpAny (model AB w) B (setFlight e o) Q E s:=by
 obtain ⟨a,ob,vs,rfl,e2,e3,e4,e5,e6,e7,e8,e9,T,oT,ts,f1,f2,f3,f4,f5,f6,f7,f8⟩:=f
 obtain ⟨l,hl,Kr⟩:=p.amb.fr
 have h3:3<ts.size:=(Array.getElem?_eq_some_iff.mp f8).1
 unfold setFlight
 refine ah (wpAny_field e5 e7 f1 ?_)
 rw [ak (show (Value.ref T != Value.none)=true from by simp)]
 have other:∀b,b≠T->(s.heap.update T (Obj.mapFields (·.setIfInBounds 3 (o.elim Value.none fun f=>rawInt f)))).get? b=s.heap.get? b:=fun b hb=>Heap.get?_update_other _ _ (Ne.symm hb)
 refine wpAny_setField f6 f7 h3 (hQ _ (p.stir H hl [T] (fun x hx=>by rw [List.mem_singleton.mp hx];exact ⟨f2,f4,f5,oT,ts,f6,f7⟩) (fun b o' q n _=>(other b fun z=>n (z ▸ .head _)).trans q) fun b o' q m=>⟨o'.slots,(other b fun z=>?_).trans q⟩)
  ⟨a,ob,vs,rfl,e2,e3,e4,(other a (Ne.symm f3)).trans e5,e6,e7,e8,e9,T,_,_,f1,f2,f3,f4,f5,bz _ f6 (Obj.isFreed_of_fields (Obj.data_mapFields f7 _)),Obj.data_mapFields f7 _,by simp [h3]⟩)
 obtain ⟨e',Bv,hb⟩:=List.mem_filterMap.mp m
 obtain ⟨_,L',P7,a1,a2,⟨es,n,a3⟩,_⟩:=Kr e' Bv
 cases Be a1 hb
 rw [z,f6] at a2
 obtain rfl:=aa a2
 rw [f7] at a3
 cases a3
theorem AV.length {vs:List Value} {xs:List V} (h:AV P φ ρ vs xs):vs.length=xs.length:=by
 induction xs generalizing vs with
 |nil=>rw [h.Co];rfl
 |cons x r ih=>obtain ⟨u,us,_,t,rfl⟩:=h.Bx;exact congrArg (· + 1) (ih t)
theorem AV.get {vs:List Value} {xs:List V} (h:AV P φ ρ vs xs) {k:Nat} {x:V} (e:xs[k]? = some x):∃v,vs[k]? = some v/\VR P φ ρ v x:=by
 induction xs generalizing vs k with
 |nil=>exact nn e
 |cons y r ih=>
  obtain ⟨u,us,hu,t,rfl⟩:=h.Bx
  induction k using zc with
  |zero=>exact ⟨u,rfl,aa e ▸ hu⟩
  |succ k=>exact ih t e
theorem AV.append {vs us:List Value} {xs ys:List V} (h:AV P φ ρ vs xs) (u:AV P φ ρ us ys):AV P φ ρ (vs++us) (xs++ys):=by
 induction xs generalizing vs with
 |nil=>rw [h.Co];exact u
 |cons x r ih=>obtain ⟨v,us,hv,t,rfl⟩:=h.Bx;exact .cons hv (ih t)
noncomputable def D6:List DictEntry->List (Str × V)->List (Str × Value)
 |e::es,p::r=>(p.1,e.val)::D6 es r
 |_,_=>[]
theorem Az.length (h:Az w.params φ ρ es l):es.length=l.length:=by
 induction l generalizing es with
 |nil=>rw [h.Co];rfl
 |cons x r ih=>obtain ⟨v,t,us,_,_,t,rfl⟩:=h.Bx;exact congrArg (· + 1) (ih t)
theorem Tw (h:Az w.params φ ρ es l):(D6 es l).map (·.1)=l.map (·.1):=by
 induction l generalizing es with
 |nil=>rw [h.Co];rfl
 |cons x r ih=>obtain ⟨v,t,us,_,_,t,rfl⟩:=h.Bx;exact congrArg (x.1 :: ·) (ih t)
theorem Gw (h:Az w.params φ ρ es l):(D6 es l).length=l.length:=by
 have:=congrArg List.length (Tw h)
 rwa [bu,bu] at this
theorem Tv (h:Az w.params φ ρ es l) {i:Nat} {k:Str} {x:V} (e:l[i]? = some (k,x)):∃v,(D6 es l)[i]? = some (k,v)/\VR w.params φ ρ v x/\k.length<=1000:=by
 induction l generalizing es i with
 |nil=>exact nn e
 |cons y r ih=>
  obtain ⟨v,t,us,hk,hv,t,rfl⟩:=h.Bx
  induction i using zc with
  |zero=>rw [aa (e:some y=_)] at hv hk ⊢;exact ⟨v,rfl,hv,hk⟩
  |succ i=>exact ih t e
theorem Az.pairs (h:Az w.params φ ρ es l):Pairs (PySem.strKind AB w) es (D6 es l):=by
 induction l generalizing es with
 |nil=>rw [h.Co];exact .nil
 |cons x r ih=>obtain ⟨v,t,us,_,_,t,rfl⟩:=h.Bx;exact .cons (by simp [PySem.strKind,Value.isStrOf]) rfl (ih t)
theorem Az.keys (h:Az w.params φ ρ es l):∀e∈es,∃k,(PySem.strKind AB w).is k e.key=true/\e.hash=(PySem.strKind AB w).hash k:=by
 induction l generalizing es with
 |nil=>rw [h.Co];exact fun e h=>by cases h
 |cons x r ih=>
  obtain ⟨v,t,us,_,_,t,rfl⟩:=h.Bx
  intro e m
  rcases List.mem_cons.mp m with rfl | m
  .exact ⟨_,by simp [PySem.strKind,Value.isStrOf],rfl⟩
  .exact ih t e m
theorem dictAt {es:Array DictEntry} (he:h.get? a=some (HW es n)) (hl:Az w.params φ ρ es.toList l) (nd:(l.map (·.1)).Nodup):h.DictAt (PySem.strKind AB w) a (D6 es.toList l) n:=
 ⟨_,es,he,⟨rfl,rfl,rfl⟩,rfl,fun e m=>hl.keys e (Array.mem_toList_iff.mpr m),hl.pairs,by rw [Tw hl];exact nd⟩
inductive Du (st:S):V->Bool->List V->Prop
 |rng (n:Nat):Du st (.rng n) false ((List.range n).map fun (i:Nat)=>V.int (Int.ofNat i))
 |vals {i:Nat} {l:List (Str × V)} (h:st.hp[i]? = some (.dict l true)):Du st (.vals i) false (l.map (·.2))
 |list {i:Nat} {l:List V} (h:st.hp[i]? = some (.list l)):Du st (.ref i) false l
 |keys {i:Nat} {l:List (Str × V)} (h:st.hp[i]? = some (.dict l true)):Du st (.ref i) true (l.map fun p=>.str p.1)
 |lst (l:List V):Du st (.lst l) false l
 |tup (l:List V):Du st (.tup l) false l
theorem LM (h:Bg v st=some o):st.hd=0/\∃kd l,o = .ok (kd,l) st/\Du st v kd l:=by
 obtain ⟨hd,h⟩:=Cu h
 refine ⟨hd,?_⟩
 induction v using V.casesOn with
 |rng n=>exact ⟨_,_,B6 h,.rng _⟩
 |vals i=>
  obtain ⟨ob,ho,h⟩:=GB h
  induction ob using O.casesOn with
  |dict l cl=>
   induction cl using bc with
   |true=>exact ⟨_,_,B6 h,.vals ho⟩
   |false=>exact nn h
  |_=>exact nn h
 |ref i=>
  obtain ⟨ob,ho,h⟩:=GB h
  induction ob using O.casesOn with
  |list l=>exact ⟨_,_,B6 h,.list ho⟩
  |dict l cl=>
   induction cl using bc with
   |true=>exact ⟨_,_,B6 h,.keys ho⟩
   |false=>exact nn h
  |_=>exact nn h
 |lst l=>exact ⟨_,_,B6 h,.lst _⟩
 |tup l=>exact ⟨_,_,B6 h,.tup _⟩
 |_=>exact nn h
theorem Wc {o:Out (Option V)} (h:Bs v kd n k st=some o):st.hd=0/\∃l,o = .ok l[k]? st/\Du st v kd l/\l.length=n:=by
 rcases HP h with ⟨p,st',e,h⟩ | ⟨_,_,e,_⟩
 .obtain ⟨hd,PY,l,e,hs⟩:=LM e
  cases e
  obtain ⟨⟨rfl,rfl⟩,h2⟩:=CE (show (if PY=kd/\l.length=n then AF l[k]? else AG) st=some o from h)
  exact ⟨hd,l,B6 h2,hs,rfl⟩
 .obtain ⟨_,_,_,e,_⟩:=LM e
  cases e
inductive It (P:Params) (φ:Fz) (ρ:AZ) (h:Heap) (it:Addr):V->Bool->Nat->Nat->Prop
 |lst {a:Addr} {l:List V} {n k:Nat} (hv:VR P φ ρ (.ref a) (.lst l)) (hi:h.IsListIter it a k):It P φ ρ h it (.lst l) false n k
 |tup {a:Addr} {l:List V} {n k:Nat} (hv:VR P φ ρ (.ref a) (.tup l)) (hi:h.IsTupleIter it a k):It P φ ρ h it (.tup l) false n k
 |list {i:Nat} {a:Addr} {n k:Nat} (hr:ρ[i]? = some (a,none)) (hi:h.IsListIter it a k):It P φ ρ h it (.ref i) false n k
 |keys {i:Nat} {a:Addr} {n k:Nat} (hr:ρ[i]? = some (a,none)) (hi:h.IsKeyIter it a k n n):It P φ ρ h it (.ref i) true n k
 |vals {i:Nat} {a:Addr} {n k:Nat} (hr:ρ[i]? = some (a,none)) (hi:h.IsValIter it a k n n):It P φ ρ h it (.vals i) false n k
 |rng {m k:Nat} (hi:IsRangeIter h it k ((m:Int)-k) 1):It P φ ρ h it (.rng m) false m k
theorem It.mono {P:Params} {φ AE:Fz} {ρ ρ':AZ} {h h':Heap} {it:Addr} {v:V} {kd:Bool} {n k:Nat} (le:Le φ AE) (pf:Pf ρ ρ') (ke:∀o,h.get? it=some o->h'.get? it=some o) (x:It P φ ρ h it v kd n k):It P AE ρ' h' it v kd n k:=by
 cases x with
 |lst hv hi=>obtain ⟨o,e,r⟩:=hi;exact .lst (hv.mono le pf) ⟨o,ke o e,r⟩
 |tup hv hi=>obtain ⟨o,e,r⟩:=hi;exact .tup (hv.mono le pf) ⟨o,ke o e,r⟩
 |list hr hi=>obtain ⟨o,e,r⟩:=hi;exact .list (pf.get hr) ⟨o,ke o e,r⟩
 |keys hr hi=>obtain ⟨o,e,r⟩:=hi;exact .keys (pf.get hr) ⟨o,ke o e,r⟩
 |vals hr hi=>obtain ⟨o,e,r⟩:=hi;exact .vals (pf.get hr) ⟨o,ke o e,r⟩
 |rng hi=>exact .rng (ke _ hi)
def XG (P:Params) (φ:Fz) (ρ:AZ) (h:Heap) (it:Addr) (kd:Bool) (n k:Nat):V->Prop
 | .lst l=>∃a,VR P φ ρ (.ref a) (.lst l)/\h.IsListIter it a k
 | .tup l=>∃a,VR P φ ρ (.ref a) (.tup l)/\h.IsTupleIter it a k
 | .ref i=>∃a,ρ[i]? = some (a,none)/\(kd=false->h.IsListIter it a k)/\(kd=true->h.IsKeyIter it a k n n)
 | .vals i=>∃a,ρ[i]? = some (a,none)/\h.IsValIter it a k n n
 | .rng m=>IsRangeIter h it k ((m:Int)-k) 1
 |_=>True
theorem It.inv (x:It P φ ρ h it v kd n k):XG P φ ρ h it kd n k v:=by
 cases x with
 |lst hv hi=>exact ⟨_,hv,hi⟩
 |tup hv hi=>exact ⟨_,hv,hi⟩
 |list hr hi=>exact ⟨_,hr,fun _=>hi,fun e=>Bool.noConfusion e⟩
 |keys hr hi=>exact ⟨_,hr,fun e=>Bool.noConfusion e,fun _=>hi⟩
 |vals hr hi=>exact ⟨_,hr,hi⟩
 |rng hi=>exact hi
noncomputable def V6:List String:=["enumerate","zip","dict_itemiterator","dict_reverseitemiterator","odict_iterator","itertools.zip_longest","itertools.pairwise"]
inductive NY (h:Heap) (it:Addr):Prop
 |mk (o:Obj) (vs:Array Value) (c:String) (e:h.get? it=some o) (d:o.data = .fields vs) (hc:o.cls = .type c) (hn:V6.contains c=false)
theorem It.obj (x:It P φ ρ h it v kd n k):NY h it:=by
 cases x with
 |lst hv hi=>obtain ⟨o,e,c,d⟩:=hi;exact ⟨o,_,_,e,d,c,by decide⟩
 |tup hv hi=>obtain ⟨o,e,c,d⟩:=hi;exact ⟨o,_,_,e,d,c,by decide⟩
 |list hr hi=>obtain ⟨o,e,c,d⟩:=hi;exact ⟨o,_,_,e,d,c,by decide⟩
 |keys hr hi=>obtain ⟨o,e,c,d⟩:=hi;exact ⟨o,_,_,e,d,c,by decide⟩
 |vals hr hi=>obtain ⟨o,e,c,d⟩:=hi;exact ⟨o,_,_,e,d,c,by decide⟩
 |rng hi=>exact ⟨_,_,_,hi,rfl,rfl,by decide⟩
theorem It.data {P:Params} {φ:Fz} {ρ:AZ} {h:Heap} {it:Addr} {v:V} {kd:Bool} {n k:Nat} (x:It P φ ρ h it v kd n k):∃o vs,h.get? it=some o/\o.data = .fields vs:=by
 obtain ⟨o,vs,_,e,d,_,_⟩:=x.obj
 exact ⟨o,vs,e,d⟩
theorem AK.noSys (H:AK AB w A AA Z φ ρ st h) (m:a∈Aa ρ):(a==sysModules)=false:=by
 obtain ⟨o,e⟩:=H.gl.sm
 refine beq_eq_false_iff_ne.mpr fun q=>?_
 rw [<-q,H.rel.ap a m] at e
 exact nn e
theorem Eb (e:h.get? a=some (Ba xs n)):h.IsList a xs:=⟨_,e,rfl,n,rfl⟩
theorem J8 (e:h.get? a=some (E8 xs n)):h.IsTuple a xs:=⟨_,e,rfl,n,rfl⟩
theorem pA (h:n<=1000):Builtin.Range.small 0 n 1=true/\Builtin.Range.rangeSize 0 n 1=n:=by
 have e:Builtin.Range.rangeSize 0 n 1=n:=by
  unfold Builtin.Range.rangeSize
  by_cases q:0<n
  .simp;lia
  .have:n=0:=by lia
   subst this;simp
 refine ⟨?_,e⟩
 have fits:∀i:Int,0<=i->i<=2000->Builtin.Range.rangeFitsLong i=true:=fun i a b=>by
  have b2:(2000:Int)<2 ^ 63:=by decide
  have b3:-2 ^ 63<=(0:Int):=by decide
  unfold Builtin.Range.rangeFitsLong
  generalize (2:Int) ^ 63=m at *
  simp only [Bool.and_eq_true,decide_eq_true_eq]
  lia
 unfold Builtin.Range.small
 rw [e,fits 0 (by lia) (by lia),fits n (by lia) (by lia),fits 1 (by lia) (by lia)]
 rw [ak (by decide),fits _ (by lia) (by lia)]
 simp
set_option tactic.hygienic true in
theorem UD {rv:Value} {l:List V} {Q:Value->Shared->Prop} (H:AK AB w A AA Z φ ρ st s.heap) (hv:VR w.params φ ρ rv v) (hs:Du st v kd l)
  (hQ:∀o vs,o.data = .fields vs->o.isFreed=false->It w.params φ ρ (s.heap.push o) s.heap.objs.size v kd l.length 0->Q (.ref s.heap.objs.size) {s with heap:=s.heap.push o}):wpAny (model AB w) A (pyIter rv) Q E s:=by
 cases hs with
 |rng n=>
  obtain ⟨z1,z2⟩:=pA hv.VH
  obtain ⟨a,t,u,x,hr,rfl⟩:=hv.pL
  refine wpAny_pyIter_range (H.rel.fz _ _ hr) z1 (hQ _ _ rfl rfl ?_)
  rw [z2,bu,List.length_range]
  exact .rng (au s.heap (o:={cls:=.type "range_iterator",data:=.fields #[rawInt 0,rawInt ((n:Int)-(0:Nat)),rawInt 1]}) rfl)
 |vals hh=>
  rename_i i l
  obtain ⟨a,b,hf,hi,rfl⟩:=hv.Qv
  obtain ⟨_,_,nd,es,n,e,z,r⟩:=H.rel.ob i _ _ hh hi
  refine wpAny_pyIter_values ⟨_,H.rel.fz _ _ hf,rfl,rfl⟩ (dictAt (AB:=AB) e r nd) (hQ _ _ rfl rfl (.vals hi ⟨_,au _ rfl,rfl,?_⟩))
  rw [Gw r];simp [z rfl]
 |list hh=>
  rename_i i
  obtain ⟨⟨a,d⟩,hi,rfl⟩:=hv.C8
  obtain ⟨z,_,xs,n,e,r⟩:=H.rel.ob i _ _ hh hi
  obtain rfl:d=none:=z
  exact wpAny_pyIter_list (Eb e) (hQ _ _ rfl rfl (.list hi ⟨_,au _ rfl,rfl,rfl⟩))
 |keys hh=>
  rename_i i l
  obtain ⟨⟨a,d⟩,hi,rfl⟩:=hv.C8
  obtain ⟨z0,_,nd,es,n,e,z,r⟩:=H.rel.ob i _ _ hh hi
  obtain rfl:d=none:=z0
  refine wpAny_pyIter_dict (H.noSys (DV hi (.inl rfl))) (dictAt (AB:=AB) e r nd) (hQ _ _ rfl rfl (.keys hi ⟨_,au _ rfl,rfl,?_⟩))
  rw [Gw r];simp [z rfl]
 |lst=>
  obtain ⟨a,xs,n,hf,hl,rfl⟩:=hv.Fb
  exact wpAny_pyIter_list (Eb (H.rel.fz _ _ hf)) (hQ _ _ rfl rfl (.lst hv ⟨_,au _ rfl,rfl,rfl⟩))
 |tup=>
  obtain ⟨a,xs,n,hf,hl,rfl⟩:=hv.E9
  exact PySem.wpAny_pyIter_tuple (J8 (H.rel.fz _ _ hf)) (hQ _ _ rfl rfl (.tup hv ⟨_,au _ rfl,rfl,rfl⟩))
set_option tactic.hygienic true in
theorem MU {l:List V} {Q:Option Value->Shared->Prop} (H:AK AB w A AA Z φ ρ st s.heap) (hd:st.hd=0) (hi:It w.params φ ρ s.heap it v kd l.length k) (hs:Du st v kd l)
  (h0:l[k]? = none->∀h',(∀b o,s.heap.get? b=some o->b≠it->h'.get? b=some o)->Q none {s with heap:=h'})
  (h1:∀x,l[k]? = some x->∀rx h' tk,VR w.params φ ρ rx x->It w.params φ ρ h' it v kd l.length (k+1)->(∀b o,s.heap.get? b=some o->b≠it->h'.get? b=some o)->Q (some rx) {s with heap:=h',toks:=tk}) :
  wpAny (model AB w) A (pyNext (.ref it)) Q E s:=by
 have hh:=H.amb.hd.1 hd
 have same:∀{h'},Heap.SameBut it s.heap h'->∀b o,s.heap.get? b=some o->b≠it->h'.get? b=some o:=fun x b o e n=>(x.2 b n).trans e
 have fin:∀{xs:Array Value},AV w.params φ ρ xs.toList l->l[k]? = none->xs[k]? = none:=fun hl q=>by
  rw [<-Array.getElem?_toList];exact List.getElem?_eq_none (by rw [hl.length];exact List.getElem?_eq_none_iff.mp q)
 have one:∀{xs:Array Value},AV w.params φ ρ xs.toList l->∀x,l[k]? = some x->∃rx,xs[k]? = some rx/\VR w.params φ ρ rx x:=fun hl x q=>by
  obtain ⟨rx,e,r⟩:=hl.get q
  exact ⟨rx,by rw [<-Array.getElem?_toList];exact e,r⟩
 cases hs with
 |lst=>
  obtain ⟨a,hv,hi⟩:=hi.inv
  obtain ⟨_,xs,n,hf,hl,e⟩:=hv.Fb
  cases e
  have L:=Eb (H.rel.fz _ _ hf)
  induction q:l[k]? using oc with
  |none=>exact wpAny_pyNext_list_end hh hi L (fin hl q) fun h' x=>h0 q h' fun b o e n=>x b o n e
  |some x=>
   obtain ⟨rx,e,r⟩:=one hl x q
   exact wpAny_pyNext_list_item hi L e fun h' DS x=>h1 _ q rx h' s.toks r (.lst hv DS) (same x)
 |tup=>
  obtain ⟨a,hv,hi⟩:=hi.inv
  obtain ⟨_,xs,n,hf,hl,e⟩:=hv.E9
  cases e
  have L:=J8 (H.rel.fz _ _ hf)
  induction q:l[k]? using oc with
  |none=>exact PySem.wpAny_pyNext_tuple_end hh hi L (fin hl q) fun h' x=>h0 q h' fun b o e n=>x b o n e
  |some x=>
   obtain ⟨rx,e,r⟩:=one hl x q
   exact PySem.wpAny_pyNext_tuple_item hi L e fun h' DS x=>h1 _ q rx h' s.toks r (.tup hv DS) (same x)
 |list Ks=>
  obtain ⟨a,hr,hi,_⟩:=hi.inv
  obtain ⟨_,_,xs,n,e,hl⟩:=H.rel.ob _ _ _ Ks hr
  have L:=Eb e
  induction q:l[k]? using oc with
  |none=>exact wpAny_pyNext_list_end hh (hi rfl) L (fin hl q) fun h' x=>h0 q h' fun b o e n=>x b o n e
  |some x=>
   obtain ⟨rx,e',r⟩:=one hl x q
   exact wpAny_pyNext_list_item (hi rfl) L e' fun h' DS x=>h1 _ q rx h' s.toks r (.list hr DS) (same x)
 |keys Ks=>
  rename_i i l
  clear fin one
  obtain ⟨a,hr,_,hi⟩:=hi.inv
  have hi:=hi rfl
  obtain ⟨_,_,nd,es,n,e,z,r⟩:=H.rel.ob i _ _ Ks hr
  have hlen:(l.map fun p=>V.str p.1).length=(D6 es.toList l).length:=by rw [Gw r,bu]
  have D:=dictAt (AB:=AB) e r nd
  rw [z rfl,<-Gw r] at D
  rw [hlen] at hi
  rw [List.getElem?_map] at h0 h1
  induction q:l[k]? using oc with
  |none=>
   rw [q] at h0
   exact wpAny_pyNext_dict_end hh hi D (List.getElem?_eq_none (by rw [Gw r];exact List.getElem?_eq_none_iff.mp q)) fun h' x=>h0 rfl h' fun b o e n=>x b o n e
  |some kx=>
   rw [q] at h1
   obtain ⟨rx,e',vx,hk⟩:=Tv r q
   refine wpAny_pyNext_dict_item hi D e' fun rk h' Ie DS x=>?_
   obtain ⟨t,rfl⟩:=Value.isStrOf_shape Ie
   exact h1 _ rfl _ h' s.toks (.str kx.1 t hk) (.keys hr (by rw [hlen];exact DS)) (same x)
 |vals Ks=>
  rename_i i l
  clear fin one
  obtain ⟨a,hr,hi⟩:=hi.inv
  obtain ⟨_,_,nd,es,n,e,z,r⟩:=H.rel.ob i _ _ Ks hr
  have hlen:(l.map (·.2)).length=(D6 es.toList l).length:=by rw [Gw r,bu]
  have D:=dictAt (AB:=AB) e r nd
  rw [z rfl,<-Gw r] at D
  rw [hlen] at hi
  rw [List.getElem?_map] at h0 h1
  induction q:l[k]? using oc with
  |none=>
   rw [q] at h0
   exact wpAny_pyNext_values_end hh hi D (List.getElem?_eq_none (by rw [Gw r];exact List.getElem?_eq_none_iff.mp q)) fun h' x=>h0 rfl h' fun b o e n=>x b o n e
  |some kx=>
   rw [q] at h1
   obtain ⟨rx,e',vx,hk⟩:=Tv r q
   exact wpAny_pyNext_values_item hi D e' fun h' DS y=>h1 _ rfl _ h' s.toks vx (.vals hr (by rw [hlen];exact DS)) (same y)
 |rng m=>
  clear fin one
  have hi:IsRangeIter s.heap it k ((m:Int)-k) 1:=hi.inv
  have hl:((List.range m).map fun (i:Nat)=>V.int (Int.ofNat i)).length=m:=by rw [bu,List.length_range]
  by_cases q:k<m
  .refine wpAny_pyNext_range_item hi (by lia) fun h' DS x=>h1 (.int k) (by rw [List.getElem?_map,List.getElem?_range q];rfl) _ h' _ (.int _ _) ?_ (same x)
   rw [hl]
   refine .rng ?_
   have e1:((k+1:Nat):Int)=(k:Int)+1:=by lia
   have e2:(m:Int)-((k+1:Nat):Int)=(m:Int)-k-1:=by lia
   rw [e2,e1];exact DS
  .exact wpAny_pyNext_range_end hh hi (by lia) fun h' x=>h0 (List.getElem?_eq_none (by rw [hl];lia)) h' fun b o e n=>x b o n e
theorem Di.on {t:Sem β} {Q:δ->Shared->Prop} (G:Di AB w A AA C t AL (m AL)) (H:AK AB w A AA Z AY Ad AL AH) (p:Al AB w A AA Z φ ρ st s.heap AY Ad AL AH)
  (N:Ar AB w A AA D Z φ ρ st s (AD m f AL) Q E)
  (hk:∀x st2 rv Ab Ae AR tk,C Ab Ae rv x->AK AB w A AA Z Ab Ae st2 AR->Al AB w A AA Z AY Ad AL AH Ab Ae st2 AR->Ar AB w A AA D Z φ ρ st s (f x st2) Q E->K rv {s with heap:=AR,toks:=tk}) :
  wpAny (model AB w) A t K E {s with heap:=AH,toks:=AO}:=
 G AY Ad Z {s with heap:=AH,toks:=AO} E K H ⟨fun q=>N.ne (BQ q),fun x st2 q rv Ab Ae AR tk v AW=>hk x st2 rv Ab Ae AR tk v (H.after (s:={s with heap:=AH,toks:=AO}) AW) AW (N.cast (AJ q)),
  fun c st2 q e Ab Ae AR tk f' AW=>N.ex c st2 (Bu q) e Ab Ae AR tk (f'.le p.ext.live) (p.trans AW)⟩
theorem Bm.on {t:Sem α} {Q:δ->Shared->Prop} {K:α->Shared->Prop} (G:Bm AB w A AA t AL (m AL)) (H:AK AB w A AA Z AY Ad AL AH) (p:Al AB w A AA Z φ ρ st s.heap AY Ad AL AH)
  (N:Ar AB w A AA D Z φ ρ st s (AD m f AL) Q E)
  (hk:∀x st2 Ab Ae AR tk,AK AB w A AA Z Ab Ae st2 AR->Al AB w A AA Z AY Ad AL AH Ab Ae st2 AR->Ar AB w A AA D Z φ ρ st s (f x st2) Q E->K x {s with heap:=AR,toks:=tk}) :
  wpAny (model AB w) A t K E {s with heap:=AH,toks:=AO}:=
 G AY Ad Z {s with heap:=AH,toks:=AO} E K H ⟨fun q=>N.ne (BQ q),fun x st2 q Ab Ae AR tk AW=>hk x st2 Ab Ae AR tk (H.after (s:={s with heap:=AH,toks:=AO}) AW) AW (N.cast (AJ q)),
  fun c st2 q e Ab Ae AR tk f' AW=>N.ex c st2 (Bu q) e Ab Ae AR tk (f'.le p.ext.live) (p.trans AW)⟩
theorem Ar.loop {o:Option (Out α)} {Q:β->Shared->Prop} (A6:A.frames=some (AA::outer)) (hf:AA.frame=some L) (H:AK AB w A AA Z φ ρ st s.heap)
  (N:Ar AB w A AA C Z φ ρ st s o Q E):Ar AB w A AA C Z φ ρ st s o Q (notedBy (model AB w) A AA fun e s'=>cameBackBy (model AB w) A AA E e s'):=by
 refine ⟨N.ne,N.ok,fun c st' q e AE ρ' h' tk f p=>?_⟩
 unfold notedBy
 refine Ji (s:={s with heap:=h',toks:=tk}) A6 hf H p f fun AR AW Gk=>?_
 unfold cameBackBy
 obtain ⟨a,ob,vs,rfl,e2,e3,e4,e5,e6,e7,e8,e9,T,oT,ts,f1,f2,f3,f4,f5,f6,f7,f8⟩:=id Gk
 refine ah (wpAny_field e5 e7 f1 ?_)
 rw [aj (show ¬ ((Value.ref T==Value.none)=true) from by simp)]
 refine GQ (s:={s with heap:=AR,toks:=tk}) H AW Gk fun BE BB JO=>?_
 exact N.ex c st' q _ AE ρ' BE tk (JO.HY (.inr ⟨L,hf,by rw [hf];rfl⟩)) BB
theorem Av (n:Nat):run (n+1)=step (run n):=rfl
inductive Nf (AB:Program) (w:World) (A:Around) (AA:Env) (Z:List Addr) (φ:Fz) (ρ:AZ) (st:S) (s:Shared) (n:Nat) (F:Nat->M Fl) (Q:Flow->Shared->Prop) (E:Value->Shared->Prop) (k:Nat) (Ay:Shared):Prop
 |mk (hk:k<=n) (AY:Fz) (Ad:AZ) (AL:S) (AH:Heap) (AO:Nat) (e:Ay={s with heap:=AH,toks:=AO}) (H:AK AB w A AA Z AY Ad AL AH) (p:Al AB w A AA Z φ ρ st s.heap AY Ad AL AH) (N:Cp AB w A AA Z φ ρ st s (F k AL) Q E)
theorem w7 {a:List Stmt} {Q K:Flow->Shared->Prop} (ht:∀st,Bm AB w A AA (isTrue t AA (eval t AA)) st (Ih.b (run k) (.ts t) st)) (ha:∀st,BO AB w A AA (execs a AA) st (Ih.f (run k) (.exs a) st)) (hb:∀st,BO AB w A AA (execs b AA) st (Ih.f (run k) (.exs b) st))
  (I:Nf AB w A AA Z φ ρ st s n (fun k=>Ih.f (run k) (.wh t a b)) Q E (k+1) Ay)
  (hK:∀Ay,Nf AB w A AA Z φ ρ st s n (fun k=>Ih.f (run k) (.wh t a b)) Q E k Ay->K .next Ay/\K .cont Ay) (hB:∀Ay,Q .next Ay->K .brk Ay) (hR:∀v Ay,Q (.ret v) Ay->K (.ret v) Ay):wpAny (model AB w) A (isTrue t AA (eval t AA)) (fun b' BX=>if b' then wpAny (model AB w) A (execs a AA) K E BX else wpAny (model AB w) A (execs b AA) Q E BX) E Ay:=by
 obtain ⟨hk,AY,Ad,AL,AH,AO,rfl,H1,Ah,N1⟩:=I
 have N1:Cp AB w A AA Z φ ρ st s (Ih.f (step (run k)) (.wh t a b) AL) Q E:=N1
 rw [L3] at N1
 refine (ht AL).on H1 Ah N1 fun c st2 Ab Ae AR Aw H2 AW N2=>?_
 have p':=Ah.trans AW
 induction c using bc with
 |false=>
  rw [aj Bool.false_ne_true]
  refine (hb st2).on (s:=s) (f:=AF) H2 p' (N2.cast (o':=AD (Ih.f (run k) (.exs b)) AF st2) (by rw [HQ];rfl)) fun f CH rf B9 B8 BE Cx vf H3 BB N3=>?_
  exact N3.ok _ _ rfl rf B9 B8 BE Cx vf (p'.trans BB)
 |true=>
  rw [ak rfl]
  refine (ha st2).on H2 p' N2 fun f CH rf B9 B8 BE Cx vf H3 BB N3=>?_
  have p':=p'.trans BB
  cases vf with
  |next=>exact (hK _ ⟨Nat.le_of_succ_le hk,B9,B8,CH,BE,Cx,rfl,H3,p',N3⟩).1
  |cont=>exact (hK _ ⟨Nat.le_of_succ_le hk,B9,B8,CH,BE,Cx,rfl,H3,p',N3⟩).2
  |brk=>exact hB _ (N3.ok _ _ rfl _ B9 B8 BE Cx .next p')
  |ret q=>exact hR _ _ (N3.ok _ _ rfl _ B9 B8 BE Cx (.ret q) p')
theorem dU {a:List Stmt} (A6:A.frames=some (AA::outer)) (hf:AA.frame=some L)
  (ht:∀k,k<n->∀st,Bm AB w A AA (isTrue t AA (eval t AA)) st (Ih.b (run k) (.ts t) st)) (ha:∀k,k<n->∀st,BO AB w A AA (execs a AA) st (Ih.f (run k) (.exs a) st)) (hb:∀k,k<n->∀st,BO AB w A AA (execs b AA) st (Ih.f (run k) (.exs b) st)) :
  BO AB w A AA (exec (.While t a b pos) AA) st (Ih.f (run (n+1)) (.ex (.While t a b pos)) st):=by
 intro φ ρ Z s E Q H N
 rw [Av,SW] at N
 refine wpAny_While (codeAny_whileLoop (fun k Ay=>Nf AB w A AA Z φ ρ st s n (fun k=>Ih.f (run k) (.wh t a b)) Q (notedBy (model AB w) A AA fun e s'=>cameBackBy (model AB w) A AA E e s') k Ay) (fun k Ay I=>?_) n ⟨ao _,φ,ρ,st,s.heap,s.toks,rfl,H,.refl H.rel H.er H.amb,N.loop A6 hf H⟩)
 induction k using zc with
 |zero=>obtain ⟨_,_,_,_,_,_,_,_,_,N1⟩:=I;exact (N1.ne rfl).elim
 |succ k=>
  have hk:k<n:=by obtain ⟨hk,_,_,_,_,_,_,_,_,_⟩:=I;exact hk
  exact w7 (ht k hk) (ha k hk) (hb k hk) I (fun Ay I=>⟨⟨k,Nat.lt_succ_self k,I⟩,⟨k,Nat.lt_succ_self k,I⟩⟩) (fun _ z=>z) fun _ _ z=>z
theorem UH {rv:Value} (hi:NY s.heap it) (h:Q () s):wpAny (model AB w) A (letOwnedTupleGo target (.ref it) rv) Q E s:=by
 have go:∀a,wpAny (model AB w) A (letOwnedTupleGo (.List [] default) (.ref it) (.ref a)) Q E s:=fun a=>by
  obtain ⟨o,vs,c,e,d,hc,hn⟩:=hi
  refine ah (wpAny_load e ?_)
  rw [hc,d]
  show wpAny (model AB w) A (if (V6.contains c&&vs[0]? == some (rawInt a))=true then _ else pure ()) Q E s
  rw [hn,aj (show ¬ ((false&&vs[0]? == some (rawInt a))=true) from fun q=>Bool.noConfusion (q:false=true))]
  exact aq h
 cases target <;> first | exact aq h | (cases rv <;> first | exact aq h | exact go _)
theorem bN {e:Expr} (h:JW e=false) (x:Value):foldedSetIterable e AA x=pure x:=by
 induction e using Expr.casesOn <;> first | rfl | exact Bool.noConfusion (h:true=false)
theorem Rel.off (R:Rel AB w φ ρ H h) (e:h.get? a=none):φ a=none:=by
 induction z:φ a using oc with
 |none=>rfl
 |some o=>exact nn (e.symm.trans (R.fz _ _ z))
inductive Lc {α β:Type} (AB:Program) (w:World) (A:Around) (AA:Env) (C:Fz->AZ->β->α->Prop) (Z:List Addr) (φ:Fz) (ρ:AZ) (st:S) (s:Shared) (it:Addr) (x:V) (kd:Bool) (n:Nat) (F:Nat->M α) (Q:β->Shared->Prop) (E:Value->Shared->Prop) (r:Nat) (BX:Shared):Prop
 |mk (hr:r<=n) (Ab:Fz) (Ae:AZ) (st2:S) (AR:Heap) (Aw:Nat) (e:BX={s with heap:=AR,toks:=Aw}) (H:AK AB w A AA Z Ab Ae st2 AR) (p:Al AB w A AA Z φ ρ st s.heap Ab Ae st2 AR)
  (i0:It w.params Ab Ae AR it x kd n (n-r)) (i1:it∉Aa Ae) (i2:Ab it=none) (N:Ar AB w A AA C Z φ ρ st s (F r st2) Q E)
theorem Al.turn (H:AK AB w A AA Z φ ρ st h) (p:Al AB w A AA Z φ ρ st h AE ρ' st' h') (Ea:h.get? it=none) (hi:NY h' it) (i1:it∉Aa ρ') (i2:AE it=none) (k:∀b o,h'.get? b=some o->b≠it->AH.get? b=some o):Al AB w A AA Z φ ρ st h AE ρ' st' AH:=by
 obtain ⟨oi,vi,_,e1,e2,_,_⟩:=hi
 obtain ⟨l,hl,hm⟩:=p.amb.fr
 refine p.stir H hl [it] (fun y hy=>by rw [List.mem_singleton.mp hy];exact ⟨Ea,i1,i2,oi,vi,e1,e2⟩) (fun b o e n _=>k b o e (fun z=>n (z ▸ .head _))) fun b o e m=>⟨o.slots,k b o e fun z=>?_⟩
 obtain ⟨ev,fQ,fF⟩:=List.mem_filterMap.mp m
 obtain ⟨_,L,oL,a1,a2,⟨es,n',a3⟩,_,_⟩:=hm ev fQ
 rw [Be fF a1] at z
 exact LB a2 a3 (z ▸ e1) e2
theorem It.past (p:Al AB w A AA Z φ ρ st h AE ρ' st' h') (hi:It w.params φ ρ h it x kd n k) (iz:it∉Z) (i1:it∉Aa ρ) (i2:φ it=none):It w.params AE ρ' h' it x kd n k/\it∉Aa ρ'/\AE it=none:=by
 obtain ⟨oi,vi,_,e1,e2,_,_⟩:=hi.obj
 refine ⟨hi.mono p.ext.le p.ext.pf (fun o e=>(p.ext.keep it o e i1 iz).exact (fun es m z=>LB e z e1 e2)),fun m=>A8 e1 (p.ext.newR it m i1),?_⟩
 induction z:AE it using oc with
 |none=>rfl
 |some o=>exact absurd (p.ext.newF it o z i2) (A8 e1)
end
section
open PySem PySem.W PyProof.Rows PySem.Calls
variable {AB:Program} {w:World} {A:Around} {AA:Env} {Z:List Addr} {φ AE AY:Fz} {ρ ρ' Ad:AZ} {st st' AL st2:S} {h h' AH:Heap} {s:Shared} {AO:Nat} {E:Value->Shared->Prop} {α β:Type} {x:V} {C:Fz->AZ->β->α->Prop} {Q:β->Shared->Prop}
inductive XQ (AB:Program) (w:World) (A:Around) (AA:Env) (C:Fz->AZ->β->α->Prop) (Z:List Addr) (φ:Fz) (ρ:AZ) (st:S) (s:Shared) (Q:β->Shared->Prop) (E:Value->Shared->Prop) (st2:S) (x:V) (f:Bool × List V->M α):Prop
 |mk (kd:Bool) (l:List V) (hd:st2.hd=0) (hs:Du st2 x kd l) (N:Ar AB w A AA C Z φ ρ st s (f (kd,l) st2) Q E)
theorem Ar.Bg {f:Bool × List V->M α} (N:Ar AB w A AA C Z φ ρ st s (AD (Bg x) f st2) Q E):XQ AB w A AA C Z φ ρ st s Q E st2 x f:=by
 induction e:Mine.Bg x st2 using oc with
 |none=>exact (N.ne (BQ e)).elim
 |some o=>
  obtain ⟨hd,kd,l,rfl,hs⟩:=LM e
  exact ⟨kd,l,hd,hs,N.cast (AJ e)⟩
inductive XU (AB:Program) (w:World) (A:Around) (AA:Env) (C:Fz->AZ->β->α->Prop) (Z:List Addr) (φ:Fz) (ρ:AZ) (st:S) (s:Shared) (Q:β->Shared->Prop) (E:Value->Shared->Prop) (st2:S) (x:V) (kd:Bool) (n k:Nat) (f:Option V->M α):Prop
 |mk (l:List V) (hd:st2.hd=0) (hs:Du st2 x kd l) (hl:l.length=n) (N:Ar AB w A AA C Z φ ρ st s (f l[k]? st2) Q E)
theorem Ar.Bs {kd:Bool} {n k:Nat} {f:Option V->M α} (N:Ar AB w A AA C Z φ ρ st s (AD (Bs x kd n k) f st2) Q E):XU AB w A AA C Z φ ρ st s Q E st2 x kd n k f:=by
 induction e:Mine.Bs x kd n k st2 using oc with
 |none=>exact (N.ne (BQ e)).elim
 |some o=>
  obtain ⟨hd,l,rfl,hs,hl⟩:=Wc e
  exact ⟨l,hd,hs,hl,N.cast (AJ e)⟩
end
section
open PySem PySem.W PyProof.Rows PySem.Calls
variable {AB:Program} {w:World} {A:Around} {AA:Env} {Z:List Addr} {φ AE AY Ab:Fz} {ρ ρ' Ad Ae:AZ} {st st' AL st2 s':S} {h h' AH AR:Heap} {s BX:Shared} {AO n m r k:Nat} {E:Value->Shared->Prop} {target iter t:Expr} {a b body orelse suite hb:List Stmt} {it L:Addr} {x v:V} {kd:Bool} {Q K:Flow->Shared->Prop} {P:Option Value->Shared->Prop} {ih:Ih} {pos xp hp:Pos} {outer:List Env} {hs:List ExceptHandler} {e rc:Value} {b0:Stmt} {c:String} {ob:Obj} {f:Fl->M Fl} {g:String->M Fl}
theorem bT (H:AK AB w A AA Z φ ρ st s.heap) (Ea:s.heap.get? it=none) (hb:∀st,BO AB w A AA (execs b AA) st (ih.f (.exs b) st)) (I:Lc AB w A AA (FR w.params) Z φ ρ st s it x kd m (Cm ih target a b x kd m) Q E 0 BX)
  (hP:∀Ay,wpAny (model AB w) A (execs b AA) Q E Ay->P none Ay):wpAny (model AB w) A (pyNext (.ref it)) P E BX:=by
 obtain ⟨_,Ab,Ae,st2,AR,Aw,rfl,H2,AW,i0,i1,i2,N⟩:=I
 obtain ⟨l,hd,hs,hl,N⟩:=Ar.Bs (k:=m) N
 have q:l[m]? = none:=List.getElem?_eq_none (Nat.le_of_eq hl)
 rw [q] at N
 have N1:Cp AB w A AA Z φ ρ st s (AD (ih.f (.exs b)) AF st2) Q E:=N.cast (by rw [HQ])
 rw [<-hl] at i0
 refine MU (s:={s with heap:=AR,toks:=Aw}) H2 hd i0 hs (fun _ BE k=>hP _ ?_) (fun y hy=>?_)
 .have BB:=AW.turn H Ea i0.obj i1 i2 k
  exact (hb st2).on (s:=s) (f:=AF) ⟨H2.gl,BB.rel,BB.er,BB.amb,H2.lo,H2.tb⟩ BB N1 fun f CH rf B9 B8 Cr Cx vf H3 Bq N6=>N6.ok _ _ rfl rf B9 B8 Cr Cx vf (BB.trans Bq)
 .exact nn (q.symm.trans (hl ▸ hy))
theorem bS (H:AK AB w A AA Z φ ρ st s.heap) (Ea:s.heap.get? it=none) (he:∀e st,Au AB w A AA (eval e AA) st (ih.v (.ev e) st)) (hA:HF AB w A AA) (hS:IF AB w A AA) (ha:∀st,BO AB w A AA (execs a AA) st (ih.f (.exs a) st))
  (I:Lc AB w A AA (FR w.params) Z φ ρ st s it x kd m (Cm ih target a b x kd m) Q E (r+1) BX)
  (hP:∀rx Ay,wpAny (model AB w) A (letOwnedTupleGo target (.ref it) rx) (fun _ qR=>wpAny (model AB w) A (assign target AA rx) (fun _ BX=>wpAny (model AB w) A (execs a AA) K E BX) E qR) E Ay->P (some rx) Ay)
  (hK:∀Ay,Lc AB w A AA (FR w.params) Z φ ρ st s it x kd m (Cm ih target a b x kd m) Q E r Ay->K .next Ay/\K .cont Ay) (hB:∀Ay,Q .next Ay->K .brk Ay) (hR:∀v Ay,Q (.ret v) Ay->K (.ret v) Ay):wpAny (model AB w) A (pyNext (.ref it)) P E BX:=by
 obtain ⟨hr,Ab,Ae,st2,AR,Aw,rfl,H2,AW,i0,i1,i2,N⟩:=I
 obtain ⟨l,hd,hs,hl,N⟩:=Ar.Bs (k:=m-(r+1)) N
 subst hl
 refine MU (s:={s with heap:=AR,toks:=Aw}) H2 hd i0 hs (fun z=>?_) (fun y hy rx BE tk vy Ku k=>hP _ _ ?_)
 .exact absurd (List.getElem?_eq_none_iff.mp z) (Nat.not_le.mpr (Nat.sub_lt (Nat.lt_of_lt_of_le (Nat.succ_pos r) hr) (Nat.succ_pos r)))
 .rw [hy] at N
  have BB:=AW.turn H Ea i0.obj i1 i2 k
  have H3:AK AB w A AA Z Ab Ae st2 BE:=⟨H2.gl,BB.rel,BB.er,BB.amb,H2.lo,H2.tb⟩
  clear hs hy k
  refine UH (s:={s with heap:=BE,toks:=tk}) Ku.obj (Kp (s:={s with heap:=BE,toks:=tk}) he hA hS H3 vy ⟨fun q=>N.ne (BQ q),fun u CH q B9 B8 Cr ND Bq=>?_,fun c CH q e B9 B8 Cr ND f Bq=>N.ex c CH (Bu q) e B9 B8 Cr ND (f.le BB.ext.live) (BB.trans Bq)⟩)
  refine (ha CH).on (s:=s) (H3.after (s:={s with heap:=BE,toks:=tk}) Bq) (BB.trans Bq) (N.cast (AJ q)) fun f I4 rf HE HD Cs I7 vf H5 p5 N7=>?_
  have p':=BB.trans (Bq.trans p5)
  obtain ⟨j0,j1,j2⟩:=Ku.past (Bq.trans p5) (fun m=>(H.er.zr it m).2.2 Ea) i1 i2
  rw [show l.length-(r+1)+1=l.length-r from Nat.succ_pred_eq_of_pos (Nat.sub_pos_of_lt hr)] at j0
  cases vf with
  |next=>exact (hK _ ⟨Nat.le_of_succ_le hr,HE,HD,I4,Cs,I7,rfl,H5,p',j0,j1,j2,N7⟩).1
  |cont=>exact (hK _ ⟨Nat.le_of_succ_le hr,HE,HD,I4,Cs,I7,rfl,H5,p',j0,j1,j2,N7⟩).2
  |brk=>exact hB _ (N7.ok _ _ rfl _ HE HD Cs I7 .next p')
  |ret q=>exact hR _ _ (N7.ok _ _ rfl _ HE HD Cs I7 (.ret q) p')
theorem cZ (A6:A.frames=some (AA::outer)) (hf:AA.frame=some L) (JT:JW iter=false)
  (he:∀e st,Au AB w A AA (eval e AA) st (Ih.v (run n) (.ev e) st)) (hA:HF AB w A AA) (hS:IF AB w A AA)
  (ha:∀st,BO AB w A AA (execs a AA) st (Ih.f (run n) (.exs a) st)) (hb:∀st,BO AB w A AA (execs b AA) st (Ih.f (run n) (.exs b) st)) :
  BO AB w A AA (exec (.For target iter a b pos) AA) st (Ih.f (run (n+1)) (.ex (.For target iter a b pos)) st):=by
 intro φ ρ Z s E Q H N
 rw [Av,Kd] at N
 refine wpAny_For ((he iter st).on (AO:=s.toks) H (.refl H.rel H.er H.amb) N fun x AL rx AY Ad AH AO vx H1 Ah N1=>?_) (bN JT)
 obtain ⟨kd,l,hd,hs,N⟩:=N1.Bg
 have N2:=N.loop A6 hf H
 clear N N1
 refine UD (s:={s with heap:=AH,toks:=AO}) H1 vx hs fun o vs ho Ou hi=>?_
 have AW:Al AB w A AA Z AY Ad AL AH AY Ad AL (AH.push o):=H1.grow fun b o' e=>bf _ e
 have itn:AH.get? AH.objs.size=none:=Heap.get?_none_of_le (ao _)
 have Ea:s.heap.get? AH.objs.size=none:=Classical.byContradiction fun z=>Ah.ext.live _ z itn
 refine codeAny_forLoop_any (fun r BX=>Lc AB w A AA (FR w.params) Z φ ρ st s AH.objs.size x kd l.length (Cm (run n) target a b x kd l.length) Q _ r BX) (fun r BX I=>?_) l.length
  ⟨ao _,AY,Ad,AL,_,AO,rfl,H1.after (s:={s with heap:=AH,toks:=AO}) AW,Ah.trans AW,by rw [Nat.sub_self];exact hi,fun m=>H1.rel.th _ m itn,H1.rel.off itn,N2⟩
 induction r using zc with
 |zero=>exact bT H Ea hb I fun _ z=>z
 |succ r=>exact bS H Ea he hA hS ha I (fun _ _ z=>z) (fun Ay I=>⟨⟨r,Nat.lt_succ_self r,I⟩,⟨r,Nat.lt_succ_self r,I⟩⟩) (fun _ z=>z) fun _ _ z=>z
theorem Qn:AN "IndexError" Df=some (.ty "IndexError"):=by kernel_rfl
theorem WV:AN "StopIteration" Df=some (.ty "StopIteration"):=by kernel_rfl
theorem WU:AN "CycleError" Df=some (.glob 96):=by kernel_rfl
theorem J2:isSubtype (.type "IndexError") (.type "BaseException")=pure true/\isSubtype (.type ((Manifest.find? "IndexError").elim "type" fun x=>x.metatype)) (.type "tuple")=pure false/\isSubtype (.type "IndexError") (.type "IndexError")=pure true:=
 ⟨isSubtype_of_subB (by decide +kernel),isSubtype_of_subB (by decide +kernel),isSubtype_of_subB (by decide +kernel)⟩
theorem Qi:isSubtype (.type "StopIteration") (.type "BaseException")=pure true/\isSubtype (.type ((Manifest.find? "StopIteration").elim "type" fun x=>x.metatype)) (.type "tuple")=pure false/\isSubtype (.type "StopIteration") (.type "StopIteration")=pure true:=
 ⟨isSubtype_of_subB (by decide +kernel),isSubtype_of_subB (by decide +kernel),isSubtype_of_subB (by decide +kernel)⟩
theorem Y3:Et "IndexError" = .type "IndexError":=by unfold Et;rw [aj (by decide),aj (by decide)]
theorem Y4:Et "IndexError*" = .type "IndexError":=by unfold Et;rw [aj (by decide),ak rfl]
theorem Y5:Et "StopIteration" = .type "StopIteration":=by unfold Et;rw [aj (by decide),aj (by decide)]
theorem Y0:Et "CycleError" = .ref 96:=by unfold Et;rw [ak rfl]
theorem IX {fin:List Stmt}:Ih.f (step ih) (.ex (.Try body hs orelse fin pos))=ID ih body hs orelse fin:=by
 exact Dk (by (try simp only [A9]);rfl)
theorem ER.U9 {P:Params} (X:ER P φ ρ AA Z st h) (e1:st'.AA=st.AA) (e2:st'.sc=st.sc):ER P φ ρ AA Z st' h:=by
 refine ⟨X.kind,X.gl,X.bl,by rw [e2];exact X.cd,by rw [e2];exact X.kl,by rw [e2];exact X.kc,by rw [e2];exact X.kf,by rw [e2];exact X.kg,by rw [e1,e2];exact X.ns,by rw [e1,e2];exact X.ce,by rw [e2];exact X.inj,X.zl,X.zr⟩
theorem AK.mark (H:AK AB w A AA Z φ ρ st h) (x:Value) (k:Nat) (gC:k≠0) (hk:k=1->∃a ox vs,x = .ref a/\h.get? a=some ox/\ox.data = .fields vs/\vs[2]? = some .none/\a∉Aa ρ/\φ a=none/\a∉Z):AK AB w (A.mark (some x)) AA Z φ ρ {st with hd:=k} h:=by
 refine ⟨H.gl,H.rel,H.er.U9 rfl rfl,⟨H.amb.fr,⟨fun z=>absurd z gC,fun z=>?_⟩,H.amb.un⟩,H.lo,⟨H.tb.lo,H.tb.hp,H.tb.at_⟩⟩
 obtain ⟨a,ox,vs,rfl,r1,r2,r3,r4,r5,r6⟩:=hk z
 exact ⟨a,ox,vs,rfl,r1,r2,r3,r4,r5,r6⟩
theorem Al.unmark {x:Option Value} (H:AK AB w A AA Z φ ρ st h) (p:Al AB w (A.mark x) AA Z φ ρ {st with hd:=k} h Ab Ae st2 AR):Al AB w A AA Z φ ρ st h Ab Ae {st2 with hd:=st.hd} AR:=by
 refine ⟨p.rel,p.er.U9 rfl rfl,⟨p.amb.fr,⟨H.amb.hd.1,fun z=>?_⟩,H.amb.un⟩,p.ext,p.lo,p.sc,rfl,p.pre⟩
 obtain ⟨a,ox,vs,a1,a2,a3,a4,a5,a6,a7⟩:=H.amb.hd.2 z
 obtain ⟨sl,e⟩:=(p.ext.keep a ox a2 a5 a7).slots
 refine ⟨a,_,vs,a1,e,a3,a4,fun m=>A8 a2 (p.ext.newR a m a5),?_,a7⟩
 induction q:Ab a using oc with
 |none=>rfl
 |some o=>exact absurd (p.ext.newF a o q a6) (A8 a2)
theorem fC {rest:List ExceptHandler} (gZ:e≠byPass)
  (h:wpAny (model AB w) (A.mark (some e)) (eval t AA) (fun c Ay=>wpAny (model AB w) (A.mark (some e)) (excMatches e c) (fun b BX=>b=true/\
   wpAny (model AB w) (A.mark (some e)) (setFlight e none) (fun _ Hz=>wpAny (model AB w) (A.mark (some e)) (execs (b0::suite) AA) Q (notedBy (model AB w) (A.mark (some e)) AA (cameBackBy (model AB w) A AA E)) Hz) (notedBy (model AB w) (A.mark (some e)) AA (cameBackBy (model AB w) A AA E)) BX) (notedBy (model AB w) (A.mark (some e)) AA (cameBackBy (model AB w) A AA E)) Ay) (notedBy (model AB w) (A.mark (some e)) AA (cameBackBy (model AB w) A AA E)) s) :
  wpAny (model AB w) A (handleBy e AA (.ExceptHandler (some t) none (b0::suite) pos::rest)) Q E s:=by
 refine wpAny_handleBy_cons (codeAny_handlers_test (b9 h (fun c Ay AH=>b9 AH (fun b BX AR=>?_) fun _ _ x=>x) fun _ _ x=>x)) gZ
 obtain ⟨rfl,AR⟩:=AR
 exact codeAny_handlers_suite AR
set_option maxHeartbeats 2000000 in
theorem lO {x:Str} {a:Addr} {Q:Bool->Shared->Prop} (G:Glob w.params φ) (R:Rel AB w φ ρ st.hp s.heap) (hc:IQ x c=true) (hv:AN x Df=some v) (hr:VR w.params φ ρ rc v) (he:s.heap.get? a=some ob) (MF:ob.cls=Et c) (hQ:Q true s) :
  wpAny (model AB w) A (excMatches (.ref a) rc) Q E s:=by
 unfold IQ at hc
 simp only [Bool.or_eq_true,Bool.and_eq_true,beq_iff_eq] at hc
 rcases hc with (⟨rfl,rfl | rfl⟩ | ⟨rfl,rfl⟩) | ⟨rfl,rfl⟩
 .obtain rfl:=Be hv Qn
  obtain rfl:=hr.I9
  exact wpAny_excMatches_type (X:="IndexError") ⟨_,he,MF.trans Y3⟩ J2.1 J2.2.1 J2.2.2 hQ
 .obtain rfl:=Be hv Qn
  obtain rfl:=hr.I9
  exact wpAny_excMatches_type (X:="IndexError") ⟨_,he,MF.trans Y4⟩ J2.1 J2.2.1 J2.2.2 hQ
 .obtain rfl:=Be hv WV
  obtain rfl:=hr.I9
  exact wpAny_excMatches_type (X:="StopIteration") ⟨_,he,MF.trans Y5⟩ Qi.1 Qi.2.1 Qi.2.2 hQ
 .obtain rfl:=Be hv WU
  obtain rfl:=hr.Ib
  obtain ⟨x1,x2,x3,x4⟩:=G.cyc
  obtain ⟨hp,g,d,tk,os⟩:=s
  exact wpAny_excMatches_sub_self (R.fz _ _ x2) he (MF.trans Y0) x1.hasBase hQ
theorem Yo {x:Str} (h:IQ x c=true) (hv:AN x Df=none):False:=by
 unfold IQ at h
 simp only [Bool.or_eq_true,Bool.and_eq_true,beq_iff_eq] at h
 rcases h with (⟨rfl,_⟩ | ⟨rfl,_⟩) | ⟨rfl,_⟩
 .exact G1 (hv.symm.trans Qn)
 .exact G1 (hv.symm.trans WV)
 .exact G1 (hv.symm.trans WU)
theorem LD {m:M Fl} {s:S} (q:m s=none):DJ m f g s=none:=by unfold DJ;rw [q]
theorem Hv {m:M Fl} {s:S} {r:Fl} (q:m s=some (.ok r s')):DJ m f g s=f r s':=by unfold DJ;rw [q]
theorem Jl {m:M Fl} {s:S} (q:m s=some (.ex c s')):DJ m f g s=g c s':=by unfold DJ;rw [q]
theorem dK {x:Str} (A6:A.frames=some (AA::outer)) (hf:AA.frame=some L)
  (Ol:∀st,BO AB w A AA (execs body AA) st (ih.f (.exs body) st)) (horelse:∀st,BO AB w A AA (execs orelse AA) st (ih.f (.exs orelse) st)) (fY:∀e st,BO AB w (A.mark (some e)) AA (execs (b0::hb) AA) st (ih.f (.exs (b0::hb)) st)) :
  BO AB w A AA (exec (.Try body [.ExceptHandler (some (.Name x xp)) none (b0::hb) hp] orelse [] pos) AA) st (Ih.f (step ih) (.ex (.Try body [.ExceptHandler (some (.Name x xp)) none (b0::hb) hp] orelse [] pos)) st):=by
 intro φ ρ Z s E Q H N
 rw [IX] at N
 by_cases hx:Cd x=true
 case neg=>exact (N.ne (congrFun (aj hx:ID ih body [.ExceptHandler (some (.Name x xp)) none (b0::hb) hp] orelse []=AG) st)).elim
 obtain ⟨h1,h2⟩:=Mc hx
 have N':Cp AB w A AA Z φ ρ st s (IC ih body x (b0::hb) orelse st) Q E:=N.cast (congrFun (ak hx:ID ih body [.ExceptHandler (some (.Name x xp)) none (b0::hb) hp] orelse []=_) st)
 refine wpAny_Try_except (Ol st φ ρ Z s _ _ H ⟨fun q=>N'.ne (LD q),fun f AL q rf AY Ad AH AO vf Ah=>?_,fun c AL q e AY Ad AH AO f Ah=>?_⟩)
 .have N':Cp AB w A AA Z φ ρ st s (IB f (ih.f (.exs orelse)) AL) Q E:=N'.cast (Hv q)
  have H1:=H.after Ah
  cases vf with
  |next=>
   have N1:Cp AB w A AA Z φ ρ st s (AD (ih.f (.exs orelse)) AF AL) Q E:=N'.cast (by rw [HQ];rfl)
   refine (horelse AL).on (s:=s) H1 Ah N1 fun f st2 rf Ab Ae AR Aw vf H2 AW N2=>?_
   exact N2.ok _ _ rfl rf Ab Ae AR Aw vf (Ah.trans AW)
  |brk=>exact N'.ok _ _ rfl _ AY Ad AH AO .brk Ah
  |cont=>exact N'.ok _ _ rfl _ AY Ad AH AO .cont Ah
  |ret v=>exact N'.ok _ _ rfl _ AY Ad AH AO (.ret v) Ah
 .have N0:Cp AB w A AA Z φ ρ st s (handled ih x (b0::hb) st.hd c AL) Q E:=N'.cast (Jl q)
  clear N'
  by_cases hc:IQ x c=true/\AL.sc.lookup x=some .globalImplicit
  .have N':Cp AB w A AA Z φ ρ st s (DJ (IK 2 (ih.f (.exs (b0::hb)))) (Jk st.hd) (fun _=>AG) AL) Q E:=N0.cast (ak hc)
   clear N0
   refine Ji (s:={s with heap:=AH,toks:=AO}) A6 hf H Ah f fun AR AW Gk=>?_
   refine GQ (s:={s with heap:=AR,toks:=AO}) H AW Gk fun BE BB JO=>?_
   have H3:AK AB w A AA Z AY Ad AL BE:=⟨H.gl.mono Ah.ext.le,BB.rel,BB.er,BB.amb,BB.lo_le H.lo,BB.tabs H.tb⟩
   have HM:=H3.mark e 2 (by decide) (fun z=>by cases z)
   have nb:e≠byPass:=by obtain ⟨a,_,_,rfl,_⟩:=JO;intro z;cases z
   refine fC nb (wpAny_Name ?_ h1)
   induction hv:AN x Df using oc with
   |none=>
    exact (Yo hc.1 hv).elim
   |some v=>
    have nm:name x {AL with hd:=2}=some (.ok v {AL with hd:=2}):=by
     unfold name
     rw [show S.sc {AL with hd:=2}=AL.sc from rfl,hc.2]
     dsimp only
     rw [hv]
    refine Oe h2 AY Ad Z {s with heap:=BE,toks:=AO} _ _ HM ⟨fun z=>A8 nm z,fun u st2 z rc Ab Ae Cr Aw vc Bq=>?_,fun c st2 z=>absurd (nm.symm.trans z) (fun q=>by cases q)⟩
    cases nm.symm.trans z
    have p5:=Bq.unmark H3
    have H4:=HM.after (s:={s with heap:=BE,toks:=AO}) Bq
    have Ke:=JO.keep Bq.ext fun a m=>(H.er.zr a m).2.2
    have mt:∀{Q E'},(Q true {s with heap:=Cr,toks:=Aw})->wpAny (model AB w) (A.mark (some e)) (excMatches e rc) Q E' {s with heap:=Cr,toks:=Aw}:=fun hq=>by
     obtain ⟨a,ob,_,rfl,_,_,_,e5,e6,_,_,_,_,_,_,_,_,_,_,_,_,_,_⟩:=Ke
     exact lO (s:={s with heap:=Cr,toks:=Aw}) H4.gl H4.rel hc.1 hv vc e5 e6 hq
    refine mt ⟨rfl,?_⟩
    refine GQ (A:=A) (st':={AL with hd:=AL.hd}) (s:={s with heap:=Cr,toks:=Aw}) H (BB.trans p5) Ke fun Cs p6 SY=>?_
    have H5:AK AB w A AA Z Ab Ae AL Cs:=⟨H.gl.mono (Ah.ext.le.trans Bq.ext.le),p6.rel,p6.er,p6.amb,p6.lo_le H.lo,p6.tabs H.tb⟩
    refine fY e {AL with hd:=2} Ab Ae Z {s with heap:=Cs,toks:=Aw} _ _ (H5.mark e 2 (by decide) (fun z=>by cases z)) ⟨fun z=>N'.ne (LD z),fun r CH z rf B9 B8 Ew Cx vf p7=>?_,fun c' CH z=>(N'.ne (Jl z)).elim⟩
    have N':Cp AB w A AA Z φ ρ st s (Jk st.hd r CH) Q E:=N'.cast (Hv z)
    have p8:=p7.unmark H5
    have e0:AL.hd=st.hd:=Ah.hd
    rw [e0] at p8
    exact N'.ok _ _ rfl rf B9 B8 Ew Cx vf (p6.trans p8)
  .exact (N0.ne (aj hc)).elim
end
section
open PySem PySem.W PyProof.Rows PySem.Calls
set_option backward.match.sparseCases true
variable {AB:Program} {w:World} {A:Around} {AA:Env} {Z:List Addr} {φ AE AY:Fz} {ρ ρ' Ad:AZ} {st st' AL:S} {h h' AH:Heap} {s:Shared} {AO:Nat} {E:Value->Shared->Prop} {ih:Ih} {g:Fl} {m:M Fl} {body:List Stmt} {f0:Stmt} {pos:Pos} {outer:List Env} {L:Addr}
theorem FR.mono {P:Params} {φ AE:Fz} {ρ ρ':AZ} (l:Le φ AE) (q:Pf ρ ρ') {f:Flow} {g:Fl} (x:FR P φ ρ f g):FR P AE ρ' f g:=by
 cases x with
 |next=>exact .next
 |brk=>exact .brk
 |cont=>exact .cont
 |ret h=>exact .ret (h.mono l q)
theorem FR.YU {P:Params} {fl Si:Flow} {x:Fl} {Q:Flow->Prop} (v:FR P φ ρ fl x) (a:x = .next->Q Si) (b:x≠.next->Q fl):(match (generalizing:=false) fl with | .next=>Q Si | g=>Q g):=by
 cases v with
 |next=>exact a rfl
 |brk=>exact b (fun z=>by exact Fl.noConfusion z)
 |cont=>exact b (fun z=>by exact Fl.noConfusion z)
 |ret h=>exact b (fun z=>by exact Fl.noConfusion z)
theorem FR.orelse {P:Params} {fl:Flow} {x:Fl} {X:Prop} {Y:Flow->Prop} (v:FR P φ ρ fl x) (m:Y fl) (a:Y .next->X):(match (generalizing:=false) fl with | .next=>X | g=>Y g):=by
 cases v with
 |next=>exact a m
 |brk=>exact m
 |cont=>exact m
 |ret h=>exact m
theorem vL {s:S} (h:g≠.next):IB g m s=some (.ok g s):=by
 induction g using Fl.casesOn with
 |next=>exact (h rfl).elim
 |_=>rfl
theorem dM {fin:List Stmt} (A6:A.frames=some (AA::outer)) (hf:AA.frame=some L)
  (Ol:∀st,BO AB w A AA (execs body AA) st (ih.f (.exs body) st)) (fR:∀st,BO AB w A AA (execs (f0::fin) AA) st (ih.f (.exs (f0::fin)) st)) (fT:∀e st,BO AB w (A.mark (some e)) AA (execs (f0::fin) AA) st (ih.f (.exs (f0::fin)) st)) :
  BO AB w A AA (exec (.Try body [] [] (f0::fin) pos) AA) st (Ih.f (step ih) (.ex (.Try body [] [] (f0::fin) pos)) st):=by
 intro φ ρ Z s E Q H N
 rw [IX] at N
 have N':Cp AB w A AA Z φ ρ st s (LW ih body (f0::fin) st) Q E:=N
 refine wpAny_Try_finally (Ol st φ ρ Z s _ _ H ⟨fun q=>N'.ne (LD q),fun f AL q rf AY Ad AH AO vf Ah=>?_,fun c AL q e AY Ad AH AO f Ah=>?_⟩)
 .have H1:=H.after Ah
  have NL:Cp AB w A AA Z φ ρ st s (DJ (ih.f (.exs (f0::fin))) (fun g=>IB g (AF f)) Ly AL) Q _:=(N'.cast (Hv q)).loop A6 hf H
  clear N'
  have main:wpAny (model AB w) A (execs (f0::fin) AA) (fun g s'=>match g with | .next=>Q rf s' | g=>Q g s') (notedBy (model AB w) A AA (cameBackBy (model AB w) A AA E)) {s with heap:=AH,toks:=AO}:=by
   refine fR AL AY Ad Z {s with heap:=AH,toks:=AO} _ _ H1 ⟨fun z=>NL.ne (LD z),fun g st2 z rg Ab Ae AR Aw vg AW=>?_,fun c st2 z e Ab Ae AR Aw Gk AW=>?_⟩
   .have N2:Cp AB w A AA Z φ ρ st s (IB g (AF f) st2) Q _:=NL.cast (Hv z)
    have p:=Ah.trans AW
    exact vg.YU (Q:=fun g=>Q g {s with heap:=AR,toks:=Aw}) (fun e=>N2.ok f st2 (by rw [e];rfl) rf Ab Ae AR Aw (vf.mono AW.ext.le AW.ext.pf) p) fun e=>N2.ok g st2 (vL e) rg Ab Ae AR Aw vg p
   .exact NL.ex c st2 (Jl z) e Ab Ae AR Aw (Gk.le Ah.ext.live) (Ah.trans AW)
  refine vf.orelse (Y:=fun rf=>wpAny (model AB w) A (execs (f0::fin) AA) (fun g s'=>match g with | .next=>Q rf s' | g=>Q g s') (notedBy (model AB w) A AA (cameBackBy (model AB w) A AA E)) {s with heap:=AH,toks:=AO}) main ?_
  exact fun m=>wpAny_execs_nil m
 .have N0:Cp AB w A AA Z φ ρ st s (Kh ih (f0::fin) st.hd c AL) Q E:=N'.cast (Jl q)
  clear N'
  by_cases hc:st.hd=0/\c≠"IndexError*"
  .have N':Cp AB w A AA Z φ ρ st s (DJ (IK 1 (ih.f (.exs (f0::fin)))) (L5 c) (JL 0) AL) Q E:=N0.cast (by unfold Kh;rw [ak hc])
   clear N0
   obtain ⟨MG,iE⟩:=hc
   refine Ji (s:={s with heap:=AH,toks:=AO}) A6 hf H Ah f fun AR AW Gk=>?_
   have nb:e≠byPass:=by obtain ⟨a,_,_,rfl,_⟩:=Gk;intro z;cases z
   refine ⟨nb,Ji (s:={s with heap:=AR,toks:=AO}) A6 hf H AW (Gk.HY (.inr ⟨L,hf,rfl⟩)) fun BE BB JO=>?_⟩
   refine GQ (s:={s with heap:=BE,toks:=AO}) H BB JO fun Cr Bq Ke=>?_
   have H4:AK AB w A AA Z AY Ad AL Cr:=⟨H.gl.mono Ah.ext.le,Bq.rel,Bq.er,Bq.amb,Bq.lo_le H.lo,Bq.tabs H.tb⟩
   have e0:AL.hd=0:=Ah.hd.trans MG
   have zlive:∀a∈Z,s.heap.get? a≠none:=fun a m=>(H.er.zr a m).2.2
   have HM:=H4.mark e 1 (by decide) (fun _=>by
    obtain ⟨a,ob,vs,rfl,e2,e3,e4,e5,e6,e7,e8,e9,_⟩:=Ke
    exact ⟨a,ob,vs,rfl,e5,e7,e9 iE,e3,e4,fun m=>zlive a m e2⟩)
   refine fT e {AL with hd:=1} AY Ad Z {s with heap:=Cr,toks:=AO} _ _ HM ⟨fun z=>N'.ne (LD z),fun g st2 z rg Ab Ae Cs Aw vg p5=>?_,fun c' st2 z e' Ab Ae Cs Aw SY p5=>?_⟩
   .have N':Cp AB w A AA Z φ ρ st s (L5 c g st2) Q E:=N'.cast (Hv z)
    have p6:=p5.unmark H4
    rw [e0] at p6
    have p7:=Bq.trans p6
    have IY:=Ke.keep p5.ext zlive
    cases vg with
    |next=>
     show wpAny _ A (PySem.passOn "try.finally" e AA) Q E _
     unfold PySem.passOn
     obtain ⟨a,ob,vs,rfl,e2,e3,e4,e5,e6,e7,e8,e9,T,oT,ts,g1,g2,g3,g4,g5,g6,g7,g8⟩:=id IY
     refine ah (wpAny_field e5 e7 g1 ?_)
     rw [aj (show ¬ ((Value.ref T==Value.none)=true) from by simp)]
     refine ah (GQ (s:={s with heap:=Cs,toks:=Aw}) H p7 IY fun Ew p8 L4=>wpAny_throw ?_)
     exact N'.ex c _ rfl _ Ab Ae Ew Aw (L4.HY (.inr ⟨L,hf,by rw [hf];rfl⟩)) p8
    |brk=>exact GQ (s:={s with heap:=Cs,toks:=Aw}) H p7 IY fun Ew p8 L4=>N'.ok _ _ rfl _ Ab Ae Ew Aw .brk p8
    |cont=>exact GQ (s:={s with heap:=Cs,toks:=Aw}) H p7 IY fun Ew p8 L4=>N'.ok _ _ rfl _ Ab Ae Ew Aw .cont p8
    |ret v=>exact GQ (s:={s with heap:=Cs,toks:=Aw}) H p7 IY fun Ew p8 L4=>N'.ok _ _ rfl _ Ab Ae Ew Aw (.ret v) p8
   .have N':Cp AB w A AA Z φ ρ st s (JL 0 c' st2) Q E:=N'.cast (Jl z)
    unfold notedBy
    refine Ji (A:=A.mark (some e)) (s:={s with heap:=Cs,toks:=Aw}) A6 hf HM p5 SY fun Ew p6 IY=>?_
    have p7:=p6.unmark H4
    rw [e0] at p7
    have p8:=Bq.trans p7
    have Sa:=IY.le Bq.ext.live
    unfold cameBackBy
    obtain ⟨a,ob,vs,rfl,e2,e3,e4,e5,e6,e7,e8,e9,T,oT,ts,g1,g2,g3,g4,g5,g6,g7,g8⟩:=id Sa
    refine ah (wpAny_field e5 e7 g1 ?_)
    rw [aj (show ¬ ((Value.ref T==Value.none)=true) from by simp)]
    refine GQ (s:={s with heap:=Ew,toks:=Aw}) H p8 Sa fun h7 p9 aY=>?_
    exact N'.ex c' _ rfl _ Ab Ae h7 Aw (aY.HY (.inr ⟨L,hf,by rw [hf];rfl⟩)) p9
  .exact (N0.ne (by unfold Kh;rw [aj hc];rfl)).elim
end
section
open PySem PySem.W PyProof.Rows PySem.Calls
variable {AB:Program} {w:World} {A:Around} {AA:Env} {Z:List Addr} {φ AE AY:Fz} {ρ ρ' Ad:AZ} {st st' AL:S} {h h' AH:Heap} {s:Shared} {AO k k' n:Nat} {E Q:Value->Shared->Prop} {ih:Ih} {ts es r:List Expr} {e:Expr} {x:Str × Str} {y:Str} {p q tp LV pos:Pos} {α β γ δ:Type} {v:V} {l:List V} {P:Params} {vs:List Value} {a:Addr} {o:Out V} {i:Int} {op:CmpOp} {m m':M α} {f:α->M β} {D:Fz->AZ->δ->γ->Prop} {K:α->Shared->Prop} {t:Sem α}
theorem u7 (h:J5 ts e=some x):∃p q k tp es k' LV,ts=[.Tuple [.Name x.1 p,.Name x.2 q] k tp]/\e = .Tuple es k' LV/\NC x.1 x.2 p q es=true:=by
 induction ts using lc with
 |nil=>exact nn h
 |cons t r=>
  induction r using lc with
  |cons _ _=>exact nn h
  |nil=>
   obtain ⟨us,es,e1,e2,e3⟩:=DG h
   obtain ⟨q,f1,f2⟩:=FE e3
   obtain ⟨a,b,g1,g2,g3⟩:=DG f2
   obtain ⟨c,g4⟩:=Cu g3
   obtain ⟨k,tp,rfl⟩:=Wa e1
   obtain ⟨k',LV,rfl⟩:=Wa e2
   rw [NO f1,Hs g1,Hs g2,<-aa g4]
   exact ⟨_,_,_,_,_,_,_,rfl,rfl,c⟩
theorem uz {x:Str} (hk:AA.scope.kind = .function) (hx:AA.kindOf x=some .local) (hy:AA.kindOf y=some .local) (hs:NC x y p q es=true) :
  swappedStores [.Tuple [.Name x p,.Name y q] k tp] (.Tuple es k' LV) AA=pure (some [x,y]):=by
 unfold NC at hs
 simp only [Bool.and_eq_true,beq_iff_eq,Bool.not_eq_true'] at hs
 obtain ⟨⟨⟨⟨⟨h1,h2⟩,h3⟩,h4⟩,h5⟩,h6⟩:=hs
 have iM:(y==x)=false:=by rw [beq_eq_false_iff_ne] at h4 ⊢;exact Ne.symm h4
 have bk:AA.blockKind = .function:=by simp [Env.blockKind,hk,ScopeKind.isAnnotationScope]
 have c1:(!(([Expr.Name x p,.Name y q].length==2) || ([Expr.Name x p,.Name y q].length==3)) || es.length != [Expr.Name x p,.Name y q].length || AA.blockKind != .function)=false:=by rw [h1,bk];rfl
 have e1:(Expr.Name x p).pos=p:=rfl
 have c3:([x,y].length != [Expr.Name x p,.Name y q].length || [x,y].eraseDups.length != [x,y].length)=false:=by simp [List.eraseDups_cons,iM]
 have no:∀{b:Bool},b=false->¬ b=true:=fun h q=>Bool.noConfusion (h.symm.trans q)
 have tail:∀(names:List Str) {X:Sem (Option (List Str))},names=[x,y]->(if (names.length != [Expr.Name x p,.Name y q].length || names.eraseDups.length != names.length)=true then pure none else if es.all (foldedForSure 8)=true then pure none else if es.all (constantsAlone 8)=true then X else pure (some names))=pure (some [x,y]):=fun names X e=>by
  subst e
  exact (aj (no c3)).trans ((aj (no h5)).trans (aj (no h6)))
 refine (aj (no c1)).trans ((aj (no h2)).trans (tail _ ?_))
 refine Eq.trans (List.filterMap_cons_some (b:=x) ?_) (congrArg (List.cons x) (List.filterMap_cons_some (b:=y) ?_))
 .exact ak (show (AA.kindOf x==some .local&&p.line==p.line)=true by simp [hx])
 .exact ak (show (AA.kindOf y==some .local&&q.line==p.line)=true by simp [hy,h3])
theorem YE (h:m st=m' st):AD m f st=AD m' f st:=by unfold AD;rw [h]
theorem aI {ts e pos} (hp:EC ts e=false) (hs:J5 ts e=some x):Ih.f (step ih) (.ex (.Assign ts e pos)) st=if st.hd=0/\st.sc.lookup x.1=some .local/\st.sc.lookup x.2=some .local then AD (ih.v (.ev e)) (fun v=>AD (HA x.1 x.2 v) fun _=>AF Fl.next) st else .none:=by
 have e1:step ih (.ex (.Assign ts e pos)) st=if st.hd=0/\st.sc.lookup x.1=some .local/\st.sc.lookup x.2=some .local then AD (ih.v (.ev e)) (fun v=>AD (HA x.1 x.2 v) fun _=>AF (.f Fl.next)) st else .none:=by
  show Gh ih ts e st=_
  unfold Gh
  rw [aj (fun q=>Bool.noConfusion (hp.symm.trans q)),hs]
 by_cases hc:st.hd=0/\st.sc.lookup x.1=some .local/\st.sc.lookup x.2=some .local
 .rw [ak hc] at e1 ⊢
  refine (YE e1).trans ?_
  simp -iota only [A9] <;> rfl
 .rw [aj hc] at e1 ⊢
  exact BQ e1
theorem eK {x:Str} {rv:Value} {Q:Unit->Shared->Prop} (hn:n=2) (hd:st.hd=0) (H:AK AB w A AA Z φ ρ st s.heap) (hv:VR w.params φ ρ rv v) (N:BK AB w A AA Z φ ρ st s (HA x y v st) Q E) :
  wpAny (model AB w) A (unpackItems rv n none) (fun items s=>wpAny (model AB w) A (assignInOrder [bindName AA y,bindName AA x] items.reverse) Q E s) E s:=by
 obtain ⟨_,e⟩:=N.get
 obtain ⟨_,a,e1,e2,_⟩:=EM e
 obtain rfl:=Uw e2
 have N':BK AB w A AA Z φ ρ st s (AD (store y a.2) (fun _=>store x a.1) st) Q E:=N
 clear N e e1 e2
 obtain ⟨t,xs,m,rx,ry,rfl,ht,hx,v1,v2⟩:=hv.WY
 have CQ:xs.size=n:=by rw [<-az,hx,hn];rfl
 rw [<-CQ]
 refine wpAny_unpackItems_tuple (H.amb.hd.1 hd) (J8 (H.rel.fz _ _ ht)) fun AR hk=>?_
 have AW:=H.grow fun b o e=>hk b o (Nat.ne_of_lt (Heap.lt_size e)) e
 rw [hx]
 refine wpAny_assignInOrder_more (wpAny_bindName (Hh (s:={s with heap:=AR}) (H.after AW) v2 ((N'.after AW s.toks).G5 fun u st2 Ab Ae BE tk BB N3=>?_)))
 refine wpAny_assignInOrder_more (wpAny_bindName (b9 (Hh (s:={s with heap:=BE,toks:=tk}) ((H.after AW).after BB) (v1.mono BB.ext.le BB.ext.pf) N3) (fun _ _ q=>wpAny_assignInOrder_none q) fun _ _ x=>x))
theorem cM (he:∀e st,Au AB w A AA (eval e AA) st (ih.v (.ev e) st)) (hp:EC ts e=false) (hs:J5 ts e=some x) :
  BO AB w A AA (exec (.Assign ts e pos) AA) st (Ih.f (step ih) (.ex (.Assign ts e pos)) st):=by
 intro φ ρ Z s E Q H N
 rw [aI hp hs] at N
 obtain ⟨p,q,k,tp,es,k',LV,rfl,rfl,hc⟩:=u7 hs
 by_cases hl:st.hd=0/\st.sc.lookup x.1=some .local/\st.sc.lookup x.2=some .local
 .rw [ak hl] at N
  refine Assign_Tuple_swapped ((he _ st).BH H N fun v AL rv AY Ad AH AO vv H1 Ah N1=>?_) rfl (uz H.er.kind (H.er.kl x.1 hl.2.1) (H.er.kl x.2 hl.2.2) hc)
  exact eK (s:={s with heap:=AH,toks:=AO}) rfl (Ah.hd.trans hl.1) H1 vv (N1.G5 fun u CH B9 B8 Cr CI Bq N4=>N4.pure (H1.after (s:={s with heap:=AH,toks:=AO}) Bq) .next CI)
 .rw [aj hl] at N;exact (N.ne rfl).elim
inductive Cz (st:S):V->List V->Prop
 |lst (l:List V):Cz st (.lst l) l
 |tup (l:List V):Cz st (.tup l) l
 |list {i:Nat} {l:List V} (h:st.hp[i]? = some (.list l)):Cz st (.ref i) l
theorem Ik {o:Out (List V)} (h:items v st=some o):∃l,o = .ok l st/\Cz st v l:=by
 induction v using V.casesOn with
 |lst l=>exact ⟨_,B6 h,.lst _⟩
 |tup l=>exact ⟨_,B6 h,.tup _⟩
 |ref i=>
  obtain ⟨ob,ho,h⟩:=GB h
  induction ob using O.casesOn with
  |list l=>exact ⟨_,B6 h,.list ho⟩
  |_=>exact nn h
 |_=>exact nn h
theorem Ar.items {α β:Type} {C:Fz->AZ->β->α->Prop} {v:V} {f:List V->M α} {Q:β->Shared->Prop} (N:Ar AB w A AA C Z φ ρ st s (AD (items v) f AL) Q E):∃l,Cz AL v l/\Ar AB w A AA C Z φ ρ st s (f l AL) Q E:=by
 induction e:Mine.items v AL using oc with
 |none=>exact (N.ne (BQ e)).elim
 |some o=>
  obtain ⟨l,rfl,hi⟩:=Ik e
  exact ⟨l,hi,N.cast (AJ e)⟩
inductive RI (P:Params) (φ:Fz) (ρ:AZ) (h:Heap) (rv:Value) (l:List V):Prop
 |mk (a:Addr) (o:Obj) (xs:Array Value) (n:Nat) (T:String) (e:rv = .ref a) (hT:T = "list"\/T = "tuple") (ho:h.get? a=some o) (hc:o.cls = .type T) (hd:o.data = .seq xs n) (hl:AV P φ ρ xs.toList l) (hn:l.length<=1000)
theorem Cz.seq {rv:Value} (x:Cz st v l) (H:AK AB w A AA Z φ ρ st h) (hv:VR w.params φ ρ rv v):RI w.params φ ρ h rv l:=by
 cases x with
 |lst=>obtain ⟨a,xs,n,hf,hl,e⟩:=hv.Fb;exact ⟨a,_,xs,n,"list",e,.inl rfl,H.rel.fz _ _ hf,rfl,rfl,hl,hv.Iq⟩
 |tup=>obtain ⟨a,xs,n,hf,hl,e⟩:=hv.E9;exact ⟨a,_,xs,n,"tuple",e,.inr rfl,H.rel.fz _ _ hf,rfl,rfl,hl,hv.J9⟩
 |list hh=>
  obtain ⟨p,hi,e'⟩:=hv.C8
  obtain ⟨_,hn,xs,n,e,r⟩:=H.rel.ob _ _ _ hh hi
  exact ⟨_,_,xs,n,"list",e',.inl rfl,e,rfl,rfl,r,hn⟩
theorem AV.Jf (x:AV P φ ρ vs l) (p:Al AB w A AA Z φ ρ st h AE ρ' st' h'):AV P AE ρ' vs l:=x.mono p.ext.le p.ext.pf
theorem Lx:BG ih (.Starred e p::r)=AD (ih.v (.ev e)) fun v=>AD (items v) fun l=>AD (BG ih r) fun t=>AF (l++t):=by
 rfl
theorem aD (h:Bk e=false):BG ih (e::r)=AD (ih.v (.ev e)) fun v=>AD (BG ih r) fun t=>AF (v::t):=by
 induction e using Expr.casesOn <;> first | rfl | exact Bool.noConfusion (h:true=false)
theorem GV (h:Bk e=false):starEach (e::r) AA=(false,eval e AA)::starEach r AA:=by
 induction e using Expr.casesOn <;> first | rfl | exact Bool.noConfusion (h:true=false)
theorem UB {rv:Value} {Q:List Value->Shared->Prop} (H:AK AB w A AA Z φ ρ st s.heap) (hv:VR w.params φ ρ rv v) (hi:Cz st v l)
  (hQ:∀vs h',AV w.params φ ρ vs l->(∀b o,s.heap.get? b=some o->h'.get? b=some o)->Q vs {s with heap:=h'}) :
  wpAny (model AB w) A (collect rv) Q E s:=by
 obtain ⟨a,o,xs,n,T,rfl,hT,ho,hc,hd,hl,hn⟩:=hi.seq H hv
 refine wpAny_collect_seq a hT ho hc hd (fun h' k=>hQ _ h' hl k) ?_
 rw [<-az,hl.length]
 exact bg hn (by rw [sizeLine_eq];decide)
theorem Tq {rv:Value} {Q:Bool->Shared->Prop} (H:AK AB w A AA Z φ ρ st s.heap) (hv:VR w.params φ ρ rv v) (hi:Cz st v l) (h:Q false s):wpAny (model AB w) A (notIterableAtAll rv) Q E s:=by
 obtain ⟨a,o,xs,n,T,rfl,hT,ho,hc,hd,hl,hn⟩:=hi.seq H hv
 unfold notIterableAtAll
 rcases hT with rfl | rfl
 .refine ah (wpAny_specialOf (T:="list") ⟨o,ho,hc⟩ slot_list_iter.lookup ?_)
  exact aq h
 .refine ah (wpAny_specialOf (T:="tuple") ⟨o,ho,hc⟩ F.slot_tuple_iter.lookup ?_)
  exact aq h
noncomputable abbrev NT (w:World):Fz->AZ->List Value->List V->Prop:=fun φ ρ vs l=>AV w.params φ ρ vs l
theorem LS (h:Bk e=true):∃e' p,e = .Starred e' p:=by
 induction e using Expr.casesOn <;> first | exact ⟨_,_,rfl⟩ | exact Bool.noConfusion (h:false=true)
theorem dg (he:∀e st,Au AB w A AA (eval e AA) st (ih.v (.ev e) st)) (hr:∀st,Di AB w A AA (NT w) (spliced (backTo pos (starEach r AA))) st (BG ih r st)) :
  Di AB w A AA (NT w) (spliced (backTo pos (starEach (.Starred e p::r) AA))) st (BG ih (.Starred e p::r) st):=by
 intro φ ρ Z s E Q H N
 rw [Lx] at N
 rw [arm_starEach_Starred]
 show wpAny _ A (spliced ((true,(do let v <- eval e AA;standAt pos;pure v))::backTo pos (starEach r AA))) Q E s
 rw [spliced]
 refine ah (ah ((he e st).BH H N fun v AL rv AY Ad AH AO vv H1 Ah N1=>ah (wpAny_standAt (aq ?_))))
 rw [ak rfl]
 obtain ⟨l,hi,N2⟩:=N1.items
 refine ah (Tq (s:={s with heap:=AH,toks:=AO}) H1 vv hi ?_)
 rw [aj Bool.false_ne_true]
 refine ah (UB (s:={s with heap:=AH,toks:=AO}) H1 vv hi fun vs AR vl k=>?_)
 have AW:=H1.grow k
 exact ah (bh ((hr AL).BH (s:={s with heap:=AR,toks:=AO}) (H1.after (s:={s with heap:=AH,toks:=AO}) AW) (N2.after AW AO) fun l' CH us B9 B8 BE Cx NQ H3 BB N3=>aq (N3.pure H3 ((vl.Jf BB).append NQ) Cx)))
theorem MA (he:∀e st,Au AB w A AA (eval e AA) st (ih.v (.ev e) st)) {pos:Pos} (es:List Expr) (st:S):Di AB w A AA (NT w) (spliced (backTo pos (starEach es AA))) st (BG ih es st):=by
 induction es generalizing st with
 |nil=>exact fun φ ρ Z s E Q H N=>Calls.spliced_nil (N.pure (v:=[]) H .nil s.toks)
 |cons e r hr=>
  induction Ez:Bk e using bc with
  |false=>
   rw [aD Ez,GV Ez]
   exact fun φ ρ Z s E Q H N=>Calls.spliced_cons ((he e st).BH H N fun v AL rv AY Ad AH AO vv H1 Ah N1=>(hr AL).BH H1 N1 fun l st2 vs Ab Ae AR Aw vl H2 AW N2=>N2.pure H2 (.cons (vv.mono AW.ext.le AW.ext.pf) vl) Aw)
  |true=>
   obtain ⟨e,p,rfl⟩:=LS Ez
   exact dg he hr
theorem aA {es k pos}:Ih.v (step ih) (.ev (.Tuple es k pos))=AD (BG ih es) fun l=>D7 l:=by
 exact Cy (by (try simp only [A9]);rfl)
theorem SS {es pos}:Ih.v (step ih) (.evm (.List es pos))=AD (BG ih es) fun l=>newL l:=by
 exact Cy (by (try simp only [A9]);rfl)
theorem aC {pos}:Ih.v (step ih) (.evm (.Dict [] [] pos))=newObj (.dict [] true):=by
 exact Cy (by (try simp only [A9]);rfl)
theorem SN {op es pos}:Ih.v (step ih) (.ev (.BoolOp op es pos))=HL ih op es:=by
 exact Cy (by (try simp only [A9]);rfl)
theorem aB {i k p pos}:Ih.v (step ih) (.ev (.UnaryOp .USub (.Constant (.int i) k p) pos))=AF (.int (-i)):=by
 exact Cy (by (try simp only [A9]);rfl)
theorem Qs {es pos}:Ih.b (step ih) (.ts (.BoolOp .Or es pos))=Gg ih es:=by
 exact KU (by (try simp only [A9]);rfl)
theorem wJ {e pos}:Ih.b (step ih) (.ts (.UnaryOp .Not e pos))=AD (ih.b (.ts e)) fun b=>AF (!b):=by
 exact KU (by (try simp only [A9]);rfl)
theorem Qq {l r op pos}:Ih.b (step ih) (.ts (.Compare l [op] [r] pos))=if behindInMarks op r then AG else AD (ih.v (.ev l)) fun a=>AD (ih.v (.ev r)) fun b=>cmp op a b:=by
 refine KU ?_
 by_cases h:behindInMarks op r=true
 .rw [ak h];exact ak h
 .rw [aj h]
  refine Eq.trans (aj h) ?_
  simp only [A9] <;> rfl
theorem WX {e} (h:Jo e=true):Ih.b (step ih) (.ts e)=AD (ih.v (.ev e)) fun v=>Fv v:=by
 refine KU ?_
 rw [A9]
 induction e using Expr.casesOn <;> first | rfl | exact Bool.noConfusion h
theorem wC {o:Out Bool} (h:Fv v st=some o):(v = .none/\o = .ok false st)\/(∃b,v = .bool b/\o = .ok b st)\/(∃x,v = .str x/\o = .ok (x.cps.size != 0) st)\/∃l,Cz st v l/\o = .ok (!l.isEmpty) st:=by
 have seq:AD (items v) (fun l=>AF (!l.isEmpty)) st=some o->∃l,Cz st v l/\o = .ok (!l.isEmpty) st:=fun h=>by
  rcases HP h with ⟨l,st',e,h⟩ | ⟨_,_,e,_⟩
  .obtain ⟨l',e',hi⟩:=Ik e
   cases e'
   exact ⟨l,hi,B6 h⟩
  .obtain ⟨_,e',_⟩:=Ik e
   cases e'
 induction v using V.casesOn with
 |none=>exact .inl ⟨rfl,B6 h⟩
 |bool b=>exact .inr (.inl ⟨b,rfl,B6 h⟩)
 |str x=>exact .inr (.inr (.inl ⟨x,rfl,B6 h⟩))
 |_=>exact .inr (.inr (.inr (seq h)))
theorem LQ (h:n<=1000):(n:Int)<2 ^ 63:=by
 have b2:(1001:Int)<2 ^ 63:=by decide
 lia
theorem Pg {rv:Value} {Q:Bool->Shared->Prop} (H:AK AB w A AA Z φ ρ st s.heap) (hv:VR w.params φ ρ rv v) (N:BK AB w A AA Z φ ρ st s (Fv v st) Q E):wpAny (model AB w) A (truthy rv) Q E s:=by
 obtain ⟨o,e⟩:=N.get
 have M:=N.cast e
 clear N
 rcases wC e with ⟨rfl,rfl⟩ | ⟨b,rfl,rfl⟩ | ⟨x,rfl,rfl⟩ | ⟨l,hi,rfl⟩
 .obtain rfl:=hv.none_inv
  exact truthy_none (M.pure H s.toks)
 .obtain rfl:=hv.F4
  exact wpAny_truthy_bool (M.pure H s.toks)
 .have hx:=hv.I6
  obtain ⟨t,rfl⟩:=hv.Bw
  refine P.truthy_str (Int.not_le.mpr (LQ hx)) ?_
  have e:((x.length:Int) != 0)=(x.cps.size != 0):=by
   show ((x.cps.size:Int) != 0)=_
   by_cases z:x.cps.size=0
   .rw [z];rfl
   .rw [bne_iff_ne.mpr z,bne_iff_ne.mpr (Int.ofNat_ne_zero.mpr z)]
  rw [e]
  exact M.pure H _
 .obtain ⟨a,o,xs,n,T,rfl,hT,ho,hc,hd,hl,hn⟩:=hi.seq H hv
  have e1:xs.size=l.length:=by rw [<-az,hl.length]
  have e2:xs.isEmpty=l.isEmpty:=by rw [Bool.eq_iff_iff,Array.isEmpty_iff_size_eq_zero,List.isEmpty_iff_length_eq_zero,e1]
  rw [<-e2] at M
  rcases hT with rfl | rfl
  .exact wpAny_truthy_list (items:=xs) ⟨o,ho,hc,n,hd⟩ (by rw [e1];exact LQ hn) (M.pure H _)
  .exact truthy_tuple (items:=xs) ⟨o,ho,hc,n,hd⟩ (by rw [e1];exact LQ hn) (M.pure H _)
theorem CS (h:n<=1000):n<=sizeLine:=bg h (by rw [sizeLine_eq];decide)
theorem AV.put {P:Params} {vs:List Value} {l:List V} (x:AV P φ ρ vs l) {a:Addr} {o:Obj} (h:φ a=none):AV P (put φ a o) ρ vs l:=
 x.mono (fun b y e=>by unfold Mine.put;rw [aj (fun q=>by rw [q,h] at e;exact nn e)];exact e) (.refl _)
theorem AK.fresh (H:AK AB w A AA Z φ ρ st h) (n:h.get? a=none):φ a=none:=by
 induction e:φ a using oc with
 |none=>rfl
 |some o=>have:=H.rel.fz _ _ e;rw [n] at this;exact nn this
theorem EE (h:Heap):h.get? h.objs.size=none:=Heap.get?_none_of_le (ao _)
set_option tactic.hygienic true in
theorem Pr (e:Bb l st=some o):l.length<=1000/\o = .ok (.lst l) st:=by
 unfold Bb at e
 split at e
 .rename_i q;obtain rfl:=aa e;exact ⟨q,rfl⟩
 .exact nn e
set_option tactic.hygienic true in
theorem UU (e:D7 l st=some o):l.length<=1000/\o = .ok (.tup l) st:=by
 unfold D7 at e
 split at e
 .rename_i q;obtain rfl:=aa e;exact ⟨q,rfl⟩
 .exact nn e
theorem Ma (H:AK AB w A AA Z φ ρ st s.heap) (vl:AV w.params φ ρ vs l) (N:As AB w A AA Z φ ρ st s (Bb l st) Q E) :
  vs.length<=sizeLine/\∀n tk,Q (.ref s.heap.objs.size) {s with heap:=s.heap.push {cls:=.type "list",data:=.seq vs.toArray n},toks:=tk}:=by
 induction e:Bb l st using oc with
 |none=>exact (N.ne e).elim
 |some o=>
  obtain ⟨hl,rfl⟩:=Pr e
  refine ⟨CS (by rw [vl.length];exact hl),fun n tk=>?_⟩
  have p:=H.Kl (a:=s.heap.objs.size) (o:=Ba vs.toArray n) (h':=s.heap.push (Ba vs.toArray n)) (fun b x e=>bf _ e) (EE _) (au _ rfl)
  exact N.ok _ _ e _ _ ρ _ tk (.lst (DY ..) (vl.put (H.fresh (EE _))) hl) p
theorem Uc (H:AK AB w A AA Z φ ρ st s.heap) (vl:AV w.params φ ρ vs l) (N:As AB w A AA Z φ ρ st s (D7 l st) Q E) :
  vs.length<=sizeLine/\∀n tk,Q (.ref s.heap.objs.size) {s with heap:=s.heap.push {cls:=.type "tuple",data:=.seq vs.toArray n},toks:=tk}:=by
 induction e:D7 l st using oc with
 |none=>exact (N.ne e).elim
 |some o=>
  obtain ⟨hl,rfl⟩:=UU e
  refine ⟨CS (by rw [vl.length];exact hl),fun n tk=>?_⟩
  have p:=H.Kl (a:=s.heap.objs.size) (o:=E8 vs.toArray n) (h':=s.heap.push (E8 vs.toArray n)) (fun b x e=>bf _ e) (EE _) (au _ rfl)
  exact N.ok _ _ e _ _ ρ _ tk (.tup (DY ..) (vl.put (H.fresh (EE _))) hl) p
theorem nL (H:AK AB w A AA Z φ ρ st s.heap) (vl:AV w.params φ ρ vs l) (N:As AB w A AA Z φ ρ st s (newL l st) Q E) :
  vs.length<=sizeLine/\∀n tk,Q (.ref s.heap.objs.size) {s with heap:=s.heap.push {cls:=.type "list",data:=.seq vs.toArray n},toks:=tk}:=by
 unfold newL at N
 by_cases hl:l.length<=1000
 .rw [ak hl] at N
  refine ⟨CS (by rw [vl.length];exact hl),fun n tk=>?_⟩
  have p:=H.Ll (.list l) (a:=s.heap.objs.size) (d:=none) (h':=s.heap.push (Ba vs.toArray n)) (fun b x e=>bf _ e) (EE _) (by rw [au _ rfl];exact fun q=>by cases q) (fun b q=>by cases q)
   ⟨rfl,hl,vs.toArray,n,au _ rfl,vl.mono (.refl _) ⟨_,rfl⟩⟩ H.lo
  refine N.ok _ _ rfl _ φ _ _ tk ?_ p
  have e:(ρ++[(s.heap.objs.size,none)])[st.hp.length]? = some (s.heap.objs.size,none):=by rw [<-H.rel.len];simp
  exact .ref e
 .rw [aj hl] at N;exact N.Bd.elim
theorem c7 (he:∀e st,Au AB w A AA (eval e AA) st (ih.v (.ev e) st)):Au AB w A AA (eval (.List es pos) AA) st (Ih.v (step ih) (.ev (.List es pos)) st):=by
 intro φ ρ Z s E Q H N
 rw [SQ] at N
 refine wpAny_List_spliced ((MA he es st).BH H N fun l AL vs AY Ad AH AO vl H1 Ah N1=>?_)
 obtain ⟨a,b⟩:=Ma (s:={s with heap:=AH,toks:=AO}) H1 vl N1
 exact ⟨a,b 0 AO⟩
theorem d9 (he:∀e st,Au AB w A AA (eval e AA) st (ih.v (.ev e) st)):Au AB w A AA (eval (.List es pos) AA) st (Ih.v (step ih) (.evm (.List es pos)) st):=by
 intro φ ρ Z s E Q H N
 rw [SS] at N
 refine wpAny_List_spliced ((MA he es st).BH H N fun l AL vs AY Ad AH AO vl H1 Ah N1=>?_)
 obtain ⟨a,b⟩:=nL (s:={s with heap:=AH,toks:=AO}) H1 vl N1
 exact ⟨a,b 0 AO⟩
theorem dN (he:∀e st,Au AB w A AA (eval e AA) st (ih.v (.ev e) st)):Au AB w A AA (eval (.Tuple es k pos) AA) st (Ih.v (step ih) (.ev (.Tuple es k pos)) st):=by
 intro φ ρ Z s E Q H N
 rw [aA] at N
 refine wpAny_Tuple_spliced ((MA he es st).BH H N fun l AL vs AY Ad AH AO vl H1 Ah N1=>?_)
 obtain ⟨a,b⟩:=Uc (s:={s with heap:=AH,toks:=AO}) H1 vl N1
 exact ⟨a,b 0 AO⟩
theorem d7:Au AB w A AA (eval (.Dict [] [] pos) AA) st (Ih.v (step ih) (.evm (.Dict [] [] pos)) st):=by
 intro φ ρ Z s E Q H N
 rw [aC] at N
 refine wpAny_Dict_empty ?_
 have p:=H.Ll (.dict [] true) (a:=s.heap.objs.size) (d:=none) (h':=s.heap.push (HW #[] 0)) (fun b x e=>bf _ e) (EE _) (by rw [au _ rfl];exact fun q=>by cases q) (fun b q=>by cases q)
   ⟨rfl,Nat.zero_le _,List.nodup_nil,#[],0,au _ rfl,fun _=>rfl,.nil⟩ H.lo
 have e:(ρ++[(s.heap.objs.size,none)])[st.hp.length]? = some (s.heap.objs.size,none):=by rw [<-H.rel.len];simp
 exact N.ok _ _ rfl _ φ _ _ s.toks (.ref e) p
theorem dD (he:∀e st,Au AB w A AA (eval e AA) st (ih.v (.ev e) st)) {x:Str}:Au AB w A AA (eval (.NamedExpr (.Name x p) e pos) AA) st (Ih.v (step ih) (.ev (.NamedExpr (.Name x p) e pos)) st):=by
 intro φ ρ Z s E Q H N
 rw [Z9] at N
 refine wpAny_NamedExpr ((he e st).BH H N fun v AL rv AY Ad AH AO vv H1 Ah N1=>wpAny_assign_Name ?_)
 refine Hh (s:={s with heap:=AH,toks:=AO}) H1 vv ⟨fun q=>N1.ne (BQ q),fun _ st2 q Ab Ae AR tk AW=>?_,fun c st2 q x Ab Ae AR tk f AW=>N1.ex c st2 (Bu q) x Ab Ae AR tk f AW⟩
 exact ((N1.after AW tk).cast (AJ q)).pure (H1.after (s:={s with heap:=AH,toks:=AO}) AW) (vv.mono AW.ext.le AW.ext.pf) tk
theorem dR:Au AB w A AA (eval (.UnaryOp .USub (.Constant (.int i) k p) pos) AA) st (Ih.v (step ih) (.ev (.UnaryOp .USub (.Constant (.int i) k p) pos)) st):=by
 intro φ ρ Z s E Q H N
 rw [aB] at N
 exact wpAny_UnaryOp (wpAny_Constant_int (PyProof.Rows.neg_int (N.pure H (.int _ _) _)))
theorem Bm.leaf {f:α->M γ} {Q:δ->Shared->Prop} (G:∀K',BK AB w A AA Z φ ρ st s (m st) K' E->wpAny (model AB w) A t K' E s) (H:AK AB w A AA Z φ ρ st s.heap)
  (N:Ar AB w A AA D Z φ ρ st s (AD m f st) Q E)
  (hk:∀x st' AE ρ' h' tk,AK AB w A AA Z AE ρ' st' h'->Al AB w A AA Z φ ρ st s.heap AE ρ' st' h'->Ar AB w A AA D Z AE ρ' st' {s with heap:=h',toks:=tk} (f x st') Q E->K x {s with heap:=h',toks:=tk}):wpAny (model AB w) A t K E s:=
 G K ⟨fun q=>N.ne (BQ q),fun x st' q AE ρ' h' tk p=>hk x st' AE ρ' h' tk (H.after p) p ((N.after p tk).cast (AJ q)),fun c st' q e AE ρ' h' tk f' p=>N.ex c st' (Bu q) e AE ρ' h' tk f' p⟩
theorem Od (he:∀e st,Au AB w A AA (eval e AA) st (ih.v (.ev e) st)) {op:BoolOp} {pos:Pos}:∀(es:List Expr) (st:S),Au AB w A AA (eval (.BoolOp op es pos) AA) st (HL ih op es st)
 | [],st=>by
  intro φ ρ Z s E Q H N
  exact N.Bd.elim
 | [e],st=>by
  intro φ ρ Z s E Q H N
  exact BoolOp_one (he e st φ ρ Z s E Q H N)
 |e::A3::r,st=>by
  intro φ ρ Z s E Q H N
  induction op using BoolOp.casesOn with
  |And=>
   have N':As AB w A AA Z φ ρ st s (AD (ih.v (.ev e)) (fun v=>AD (Fv v) fun b=>match BoolOp.And,b with | .And,false=>AF v | .Or,true=>AF v | _,_=>HL ih .And (A3::r)) st) Q E:=N
   refine BoolOp_and ((he e st).BH H N' fun v AL rv AY Ad AH AO vv H1 Ah N1=>?_)
   refine Bm.leaf (s:={s with heap:=AH,toks:=AO}) (fun K' n=>Pg (s:={s with heap:=AH,toks:=AO}) H1 vv n) H1 N1 fun b st2 Ab Ae AR Aw H2 AW N2=>?_
   induction b using bc with
   |true=>exact Od he (A3::r) st2 _ _ _ _ _ _ H2 N2
   |false=>exact N2.pure H2 (vv.mono AW.ext.le AW.ext.pf) Aw
  |Or=>
   have N':As AB w A AA Z φ ρ st s (AD (ih.v (.ev e)) (fun v=>AD (Fv v) fun b=>match BoolOp.Or,b with | .And,false=>AF v | .Or,true=>AF v | _,_=>HL ih .Or (A3::r)) st) Q E:=N
   refine BoolOp_or ((he e st).BH H N' fun v AL rv AY Ad AH AO vv H1 Ah N1=>?_)
   refine Bm.leaf (s:={s with heap:=AH,toks:=AO}) (fun K' n=>Pg (s:={s with heap:=AH,toks:=AO}) H1 vv n) H1 N1 fun b st2 Ab Ae AR Aw H2 AW N2=>?_
   induction b using bc with
   |false=>exact Od he (A3::r) st2 _ _ _ _ _ _ H2 N2
   |true=>exact N2.pure H2 (vv.mono AW.ext.le AW.ext.pf) Aw
theorem eS (ht:∀e st,Bm AB w A AA (isTrue e AA (eval e AA)) st (ih.b (.ts e) st)) {whole:Sem Value}:Bm AB w A AA (isTrue (.UnaryOp .Not e pos) AA whole) st (Ih.b (step ih) (.ts (.UnaryOp .Not e pos)) st):=by
 intro φ ρ Z s E Q H N
 rw [wJ] at N
 exact wpAny_isTrue_Not ((ht e st).Fq H N fun b AL AY Ad AH AO H1 Ah N1=>N1.pure H1 AO)
theorem isTrue_plain (hp:Jo e=true) {whole:Sem Value}:isTrue e AA whole=(do let v <- whole;standAt e.pos;holding [v] (truthy v)):=by
 induction e using Expr.casesOn <;> first | rfl | exact Bool.noConfusion (hp:false=true)
theorem eU (he:∀e st,Au AB w A AA (eval e AA) st (ih.v (.ev e) st)) (hp:Jo e=true):Bm AB w A AA (isTrue e AA (eval e AA)) st (Ih.b (step ih) (.ts e) st):=by
 intro φ ρ Z s E Q H N
 rw [WX hp] at N
 refine wpAny_isTrue_value ((he e st).Fq H N fun v AL rv AY Ad AH AO vv H1 Ah N1=>Pg (s:={s with heap:=AH,toks:=AO}) H1 vv N1) (isTrue_plain hp)
theorem eN (he:∀e st,Au AB w A AA (eval e AA) st (ih.v (.ev e) st)) {l r:Expr} {whole:Sem Value}
  (ho:∀{a b ra rb φ ρ Z st s E Q},AK AB w A AA Z φ ρ st s.heap->VR w.params φ ρ ra a->VR w.params φ ρ rb b->As AB w A AA Z φ ρ st s (AD (cmp op a b) (fun c=>AF (V.bool c)) st) Q E->wpAny (model AB w) A (compareOp op ra rb) Q E s) :
  Bm AB w A AA (isTrue (.Compare l [op] [r] pos) AA whole) st (Ih.b (step ih) (.ts (.Compare l [op] [r] pos)) st):=by
 intro φ ρ Z s E Q H N
 rw [Qq] at N
 by_cases hb:behindInMarks op r=true
 .rw [ak hb] at N;exact N.Bd.elim
 .rw [aj hb] at N
  refine wpAny_isTrue_Compare1 ((he l st).Fq H N fun a AL ra AY Ad AH AO va H1 _ N1=>(he r AL).Fq H1 N1 fun b st2 rb Ab Ae AR Aw vb H2 AW N2=>?_) (by simpa using hb)
  refine ho H2 (va.mono AW.ext.le AW.ext.pf) vb (N2.ret fun c rv _ _ _ vx q=>?_)
  rw [vx.F4]
  exact wpAny_truthy_bool q
end
section
open PySem PySem.W PyProof.Rows PySem.Calls PySem.SeqAt
variable {n AO j m1 m2 i:Nat} {y a b v v' a' b':V} {k:Bool} {P:Params} {φ AE AY:Fz} {ρ ρ' Ad:AZ} {w:World} {s:Shared} {AB:Program} {A:Around} {AA:Env} {Z:List Addr} {st st' AL:S} {h h' AH:Heap} {E Q:Value->Shared->Prop} {ih:Ih} {α:Type} {xs ys:Array Value} {l:List V} {q:Addr} {ra rb rx ry:Value} {o:Out V} {g:Bool->V} {fi:Int->Int->Bool} {fs:Str->Str->Bool} {c:M Bool} {us:List Value} {x:Int} {u:Tok} {f:Int->Int->Option Int} {op:Operator} {p:V->Option α}
def Jm (f:V->V->Option Bool) (a b:List V) (j:Nat):Bool:=(both a[j]? b[j]? f).getD false
theorem Xn {f:V->V->Option Bool} {a b:List V} {k:Bool} (h:V.eq.all2 f a b=some k) (l:a.length=b.length) :
  (∀(j:Nat) x y,a[j]? = some x->b[j]? = some y->∃e,f x y=some e)/\k=(List.range a.length).all (Jm f a b):=by
 induction a generalizing b k with
 |nil=>exact ⟨fun j x y e=>nn e,(aa h).symm⟩
 |cons x a ih=>
  induction b using lc with
  |nil=>exact absurd l (Nat.succ_ne_zero _)
  |cons y b=>
   obtain ⟨p,q,hp,hq,e⟩:=DG h
   obtain ⟨h1,h2⟩:=ih hq (Nat.succ.inj l)
   refine ⟨fun j u v e1 e2=>?_,?_⟩
   .induction j using zc with
    |zero=>rw [<-aa e1,<-aa e2];exact ⟨p,hp⟩
    |succ j=>exact h1 j u v e1 e2
   .rw [<-aa e,h2,List.length_cons,List.range_succ_eq_map,List.all_cons,List.all_map]
    have e0:Jm f (x::a) (y::b) 0=p:=congrArg (Option.getD · false) hp
    rw [e0];rfl
theorem OI {a:Bool} (h:V.eq (n+1) (.bool a) y=some k):∃b,y = .bool b/\k=(a==b):=by
 obtain ⟨_,b,e1,e2,e3⟩:=DG (show both (some a) y.bool? (fun a b=>some (a==b))=some k from h)
 obtain rfl:=aa e1
 exact ⟨b,V.Rf e2,(aa e3).symm⟩
theorem OJ {a:Int} (h:V.eq (n+1) (.int a) y=some k):∃b,y = .int b/\k=(a==b):=by
 obtain ⟨_,b,e1,e2,e3⟩:=DG (show both (some a) y.int? (fun a b=>some (a==b))=some k from h)
 obtain rfl:=aa e1
 exact ⟨b,V.FY e2,(aa e3).symm⟩
theorem ON {a:Str} (h:V.eq (n+1) (.str a) y=some k):∃b,y = .str b/\k=(a==b):=by
 obtain ⟨_,b,e1,e2,e3⟩:=DG (show both (some a) y.B7 (fun a b=>some (a==b))=some k from h)
 obtain rfl:=aa e1
 exact ⟨b,V.Fp e2,(aa e3).symm⟩
theorem OL {a:List V} (h:V.eq (n+1) (.lst a) y=some k):∃b,y = .lst b/\(if a.length=b.length then V.eq.all2 (V.eq n) a b else some false)=some k:=by
 obtain ⟨_,b,e1,e2,e3⟩:=DG (show both (some a) y.Gz (fun a b=>if a.length=b.length then V.eq.all2 (V.eq n) a b else some false)=some k from h)
 obtain rfl:=aa e1
 exact ⟨b,V.UN e2,e3⟩
theorem OO {a:List V} (h:V.eq (n+1) (.tup a) y=some k):∃b,y = .tup b/\(if a.length=b.length then V.eq.all2 (V.eq n) a b else if a.isEmpty || b.isEmpty then some false else .none)=some k:=by
 obtain ⟨_,b,e1,e2,e3⟩:=DG (show both (some a) y.I8 (fun a b=>if a.length=b.length then V.eq.all2 (V.eq n) a b else if a.isEmpty || b.isEmpty then some false else .none)=some k from h)
 obtain rfl:=aa e1
 exact ⟨b,V.WZ e2,e3⟩
theorem RT {f:V->V->Option Bool} (hf:∀(x y:V) (v:Value) (k:Bool),f x y=some k->VR P φ ρ v x->VR P φ ρ v y->k=true) {xs:List Value} {a b:List V} {k:Bool} (h1:AV P φ ρ xs a) (h2:AV P φ ρ xs b) (h:V.eq.all2 f a b=some k):k=true:=by
 induction a generalizing b k xs with
 |nil=>exact (aa h).symm
 |cons x a ih=>
  induction b using lc with
  |nil=>exact (aa h).symm
  |cons y b=>
   obtain ⟨p,q,hp,hq,e⟩:=DG h
   obtain ⟨u,us,u1,t1,rfl⟩:=h1.Bx
   obtain ⟨_,_,u2,t2,e'⟩:=h2.Bx
   cases e'
   rw [<-aa e,hf _ _ _ _ hp u1 u2,ih t1 t2 hq];rfl
theorem SI (n:Nat) (x y:V) (v:Value) (k:Bool) (h:V.eq n x y=some k) (hx:VR P φ ρ v x) (hy:VR P φ ρ v y):k=true:=by
 induction n generalizing x y v k with
 |zero=>exact nn h
 |succ n ih=>
  induction x using V.casesOn with
  |bool a=>
   obtain ⟨b,rfl,rfl⟩:=OI h
   cases hx.F4.symm.trans hy.F4
   exact beq_self_eq_true _
  |int a=>
   obtain ⟨b,rfl,rfl⟩:=OJ h
   obtain ⟨_,f1⟩:=hx.B3
   obtain ⟨_,f2⟩:=hy.B3
   cases f1.symm.trans f2
   exact beq_self_eq_true _
  |str a=>
   obtain ⟨b,rfl,rfl⟩:=ON h
   obtain ⟨_,f1⟩:=hx.Bw
   obtain ⟨_,f2⟩:=hy.Bw
   cases f1.symm.trans f2
   exact beq_self_eq_true _
  |lst a=>
   obtain ⟨b,rfl,e3⟩:=OL h
   obtain ⟨p,xs,_,f1,l1,g1⟩:=hx.Fb
   obtain ⟨q,ys,_,f2,l2,g2⟩:=hy.Fb
   cases g1.symm.trans g2
   cases Be f1 f2
   exact RT ih l1 l2 ((ak (l1.length.symm.trans l2.length)).symm.trans e3)
  |tup a=>
   obtain ⟨b,rfl,e3⟩:=OO h
   obtain ⟨p,xs,_,f1,l1,g1⟩:=hx.E9
   obtain ⟨q,ys,_,f2,l2,g2⟩:=hy.E9
   cases g1.symm.trans g2
   cases Be f1 f2
   exact RT ih l1 l2 ((ak (l1.length.symm.trans l2.length)).symm.trans e3)
  |_=>exact nn h
theorem AV.at (h:AV P φ ρ xs.toList l) (hj:j<xs.size):∃x,l[j]? = some x/\VR P φ ρ xs[j] x:=by
 have hl:j<l.length:=by rw [<-h.length,az];exact hj
 obtain ⟨v,e,r⟩:=h.get (List.getElem?_eq_getElem hl)
 refine ⟨_,List.getElem?_eq_getElem hl,?_⟩
 rw [Array.getElem?_toList,Array.getElem?_eq_getElem hj] at e
 exact aa e ▸ r
def La (w:World) (φ:Fz) (ρ:AZ) (s:Shared) (n:Nat):Prop:=∀(A:Around) (x y:V) (rx ry:Value) (k:Bool),V.eq n x y=some k->VR w.params φ ρ rx x->VR w.params φ ρ ry y->A.units+n<cLine->EqAt A s rx ry k/\RcAt A s rx ry k/\RcNeAt A s rx ry (!k)
theorem R9 (ih:La w φ ρ s n) (hu:A.units+(n+1)<cLine) {a b:List V} (h1:AV w.params φ ρ xs.toList a) (h2:AV w.params φ ρ ys.toList b) (h3:V.eq.all2 (V.eq n) a b=some k) (h4:a.length=b.length) :
  (∀j (h1:j<xs.size) (h2:j<ys.size),EqAt A.in1 s xs[j] ys[j] (Jm (V.eq n) a b j))/\k=(List.range xs.size).all (Jm (V.eq n) a b):=by
 obtain ⟨q1,q2⟩:=Xn h3 h4
 have hs:xs.size=a.length:=by rw [<-az,h1.length]
 refine ⟨fun j j1 j2=>?_,by rw [hs];exact q2⟩
 obtain ⟨u,e1,r1⟩:=h1.at j1
 obtain ⟨v,e2,r2⟩:=h2.at j2
 obtain ⟨e,he⟩:=q1 j u v e1 e2
 have:Jm (V.eq n) a b j=e:=by unfold Jm;rw [e1,e2];exact congrArg (Option.getD · false) he
 rw [this]
 exact (ih A.in1 u v _ _ e he r1 r2 (by rw [Around.in1_units];lia)).1
theorem ref_eq {p:Addr} (rc:RcAt A s (.ref p) (.ref q) k/\RcNeAt A s (.ref p) (.ref q) (!k)) (same:p=q->k=true):EqAt A s (.ref p) (.ref q) k/\RcAt A s (.ref p) (.ref q) k/\RcNeAt A s (.ref p) (.ref q) (!k):=by
 refine ⟨?_,rc⟩
 by_cases O9:p=q
 .rw [same O9,O9];exact EqAt.same _
 .exact EqAt.of_refs O9 rc.1
theorem lD (Ex:∀a o,φ a=some o->s.heap.get? a=some o) (ih:La w φ ρ s n) (hu:A.units+(n+1)<cLine) {p:Addr} {a b:List V} (f1:φ p=some (Ba xs m1)) (f2:φ q=some (Ba ys m2)) (l1:AV w.params φ ρ xs.toList a) (l2:AV w.params φ ρ ys.toList b)
  (n1:a.length<=1000) (n2:b.length<=1000) (h:(if a.length=b.length then V.eq.all2 (V.eq n) a b else some false)=some k):RcAt A s (.ref p) (.ref q) k/\RcNeAt A s (.ref p) (.ref q) (!k):=by
 have s1:xs.size=a.length:=by rw [<-az,l1.length]
 have s2:ys.size=b.length:=by rw [<-az,l2.length]
 have L1:=Eb (Ex _ _ f1)
 have L2:=Eb (Ex _ _ f2)
 by_cases hl:a.length=b.length
 .rw [ak hl] at h
  obtain ⟨e1,e2⟩:=R9 ih hu l1 l2 h hl
  rw [e2]
  exact ⟨RcAt.lists L1 L2 (by lia) (by lia) e1,RcNeAt.lists L1 L2 (by lia) (by lia) e1⟩
 .rw [aj hl] at h
  rw [<-aa h]
  have ne:(xs.size != ys.size)=true:=bne_iff_ne.mpr (by rw [s1,s2];exact hl)
  exact ⟨RcAt.lists_lengths L1 L2 ne (by lia),RcNeAt.lists_lengths L1 L2 ne (by lia)⟩
theorem wX (Ex:∀a o,φ a=some o->s.heap.get? a=some o) (ih:La w φ ρ s n) (hu:A.units+(n+1)<cLine) {p:Addr} {a b:List V} (f1:φ p=some (E8 xs m1)) (f2:φ q=some (E8 ys m2)) (l1:AV w.params φ ρ xs.toList a) (l2:AV w.params φ ρ ys.toList b)
  (n1:a.length<=1000) (n2:b.length<=1000) (h:(if a.length=b.length then V.eq.all2 (V.eq n) a b else if a.isEmpty || b.isEmpty then some false else .none)=some k):RcAt A s (.ref p) (.ref q) k/\RcNeAt A s (.ref p) (.ref q) (!k):=by
 have s1:xs.size=a.length:=by rw [<-az,l1.length]
 have s2:ys.size=b.length:=by rw [<-az,l2.length]
 have L1:=J8 (Ex _ _ f1)
 have L2:=J8 (Ex _ _ f2)
 by_cases hl:a.length=b.length
 .rw [ak hl] at h
  obtain ⟨e1,e2⟩:=R9 ih hu l1 l2 h hl
  have t1:=RcAt.tuples L1 L2 (by lia) e1
  have t2:=RcNeAt.tuples L1 L2 (by lia) e1
  rw [show min xs.size ys.size=xs.size by lia,<-e2,show (xs.size==ys.size)=true from beq_iff_eq.mpr (by lia),Bool.and_true] at t1 t2
  exact ⟨t1,t2⟩
 .rw [aj hl] at h
  obtain ⟨hz,h⟩:=Cu h
  have z:min xs.size ys.size=0:=by
   rw [s1,s2]
   simp only [Bool.or_eq_true,List.isEmpty_iff_length_eq_zero] at hz
   lia
  have t1:=RcAt.tuples (A:=A) (e:=fun _=>true) L1 L2 (by lia) (fun j j1 j2=>by lia)
  have t2:=RcNeAt.tuples (A:=A) (e:=fun _=>true) L1 L2 (by lia) (fun j j1 j2=>by lia)
  rw [z,show (xs.size==ys.size)=false from beq_eq_false_iff_ne.mpr (by lia),Bool.and_false] at t1 t2
  rw [<-aa h]
  exact ⟨t1,t2⟩
theorem Z3 (Ex:∀a o,φ a=some o->s.heap.get? a=some o) (n:Nat):La w φ ρ s n:=by
 induction n with
 |zero=>exact fun A x y rx ry k h=>nn h
 |succ n ih=>
  intro A x y rx ry k h hx hy hu
  induction x using V.casesOn with
  |bool a=>
   obtain ⟨b,rfl,rfl⟩:=OI h
   rw [hx.F4,hy.F4];exact ⟨EqAt.bool_bool _ _,RcAt.bool_bool _ _,RcNeAt.bool_bool _ _⟩
  |int a=>
   obtain ⟨b,rfl,rfl⟩:=OJ h
   obtain ⟨_,rfl⟩:=hx.B3
   obtain ⟨_,rfl⟩:=hy.B3
   exact ⟨EqAt.int_int _ _ _ _,RcAt.int_int _ _ _ _,RcNeAt.int_int _ _ _ _⟩
  |str a=>
   obtain ⟨b,rfl,rfl⟩:=ON h
   obtain ⟨_,rfl⟩:=hx.Bw
   obtain ⟨_,rfl⟩:=hy.Bw
   exact ⟨EqAt.str_str _ _ _ _,RcAt.str_str _ _ _ _,RcNeAt.str_str _ _ _ _⟩
  |lst a=>
   obtain ⟨b,rfl,e3⟩:=OL h
   obtain ⟨p,xs,_,f1,l1,rfl⟩:=hx.Fb
   obtain ⟨q,ys,_,f2,l2,rfl⟩:=hy.Fb
   exact ref_eq (lD Ex ih hu f1 f2 l1 l2 hx.Iq hy.Iq e3) fun e=>SI _ _ _ _ _ h hx (e ▸ hy)
  |tup a=>
   obtain ⟨b,rfl,e3⟩:=OO h
   obtain ⟨p,xs,_,f1,l1,rfl⟩:=hx.E9
   obtain ⟨q,ys,_,f2,l2,rfl⟩:=hy.E9
   exact ref_eq (wX Ex ih hu f1 f2 l1 l2 hx.J9 hy.J9 e3) fun e=>SI _ _ _ _ _ h hx (e ▸ hy)
  |_=>exact nn h
theorem i7 (h:isNone a=some k):(a = .none/\k=true)\/∃i,a = .ref i/\k=false:=by
 induction a using V.casesOn with
 |none=>exact .inl ⟨rfl,(aa h).symm⟩
 |ref i=>exact .inr ⟨i,rfl,(aa h).symm⟩
 |_=>exact nn h
theorem VL (h:same a b=some k):(b = .none/\isNone a=some k)\/(∃x y,a = .bool x/\b = .bool y/\k=(x==y))\/(∃i,a = .ref i/\b = .ref i/\k=true)\/∃x j,a = .str x/\b = .ref j/\k=false:=by
 induction b using V.casesOn with
 |none=>exact .inl ⟨rfl,h⟩
 |bool y=>
  obtain ⟨x,_,e1,e2,e3⟩:=DG (show both a.bool? (some y) (fun a b=>some (a==b))=some k from h)
  obtain rfl:=aa e2
  exact .inr (.inl ⟨x,y,V.Rf e1,rfl,(aa e3).symm⟩)
 |ref j=>
  induction a using V.casesOn with
  |ref i=>
   obtain ⟨rfl,h'⟩:=Cu (show (if i=j then some true else none)=some k from h)
   exact .inr (.inr (.inl ⟨i,rfl,rfl,(aa h').symm⟩))
  |str x=>exact .inr (.inr (.inr ⟨x,j,rfl,rfl,(aa h).symm⟩))
  |_=>exact nn h
 |_=>exact nn h
theorem qU (h:same a b=some k) (va:VR w.params φ ρ ra a) (vb:VR w.params φ ρ rb b):(plainIs ra rb=true/\(ra==rb)=k)\/∃x,ra = .ref x/\rb = .ref x/\k=true:=by
 rcases VL h with ⟨rfl,h⟩ | ⟨x,y,rfl,rfl,rfl⟩ | ⟨i,rfl,rfl,rfl⟩ | ⟨x,j,rfl,rfl,rfl⟩
 .rw [vb.none_inv]
  rcases i7 h with ⟨rfl,rfl⟩ | ⟨i,rfl,rfl⟩
  .rw [va.none_inv];exact .inl ⟨rfl,rfl⟩
  .obtain ⟨p,_,rfl⟩:=va.C8;exact .inl ⟨rfl,rfl⟩
 .rw [va.F4,vb.F4]
  exact .inl ⟨rfl,by induction x using bc <;> induction y using bc <;> rfl⟩
 .obtain ⟨p,h1,e1⟩:=va.C8
  obtain ⟨q,h2,e2⟩:=vb.C8
  exact .inr ⟨p.1,e1,by rw [Be h1 h2];exact e2,rfl⟩
 .obtain ⟨_,rfl⟩:=va.Bw
  obtain ⟨_,_,rfl⟩:=vb.C8
  exact .inl ⟨rfl,rfl⟩
theorem To (h:same a b=some k) (va:VR w.params φ ρ ra a) (vb:VR w.params φ ρ rb b) :
  (Q (.bool k) s->wpAny (model AB w) A (compareOp .Is ra rb) Q E s)/\(Q (.bool (!k)) s->wpAny (model AB w) A (compareOp .IsNot ra rb) Q E s):=by
 rcases qU h va vb with ⟨h1,rfl⟩ | ⟨x,rfl,rfl,rfl⟩
 .exact ⟨wpAny_is_plain h1,wpAny_isNot_plain h1⟩
 .exact ⟨wpAny_is_ref_self,wpAny_isNot_ref_self⟩
theorem L8 (h:FN v st=some o):∃v',o = .ok v' st/\(v'=v\/∃i l,v = .ref i/\st.hp[i]? = some (.list l)/\v' = .lst l):=by
 induction v using V.casesOn with
 |ref i=>
  obtain ⟨ob,ho,h⟩:=GB h
  induction ob using O.casesOn with
  |list l=>exact ⟨_,B6 h,.inr ⟨i,l,rfl,ho,rfl⟩⟩
  |_=>exact nn h
 |_=>exact ⟨_,B6 h,.inl rfl⟩
theorem Sv {rv:Value} (H:AK AB w A AA Z φ ρ st h) (l1:Le φ AY) (Ex:∀a o,AY a=some o->h.get? a=some o) (hv:VR w.params φ ρ rv v) (hx:v'=v\/∃i l,v = .ref i/\st.hp[i]? = some (.list l)/\v' = .lst l) :
  ∃Ab,Le AY Ab/\(∀a o,Ab a=some o->h.get? a=some o)/\VR w.params Ab ρ rv v':=by
 rcases hx with rfl | ⟨i,l,rfl,ho,rfl⟩
 .exact ⟨AY,.refl _,Ex,hv.mono l1 (.refl _)⟩
 .obtain ⟨p,hi,rfl⟩:=hv.C8
  obtain ⟨_,hn,xs,n,e,r⟩:=H.rel.ob i _ _ ho hi
  have le:Le AY (put AY p.1 (Ba xs n)):=fun a o q=>by
   by_cases z:a=p.1
   .rw [z] at q ⊢
    rw [DY,<-Be (Ex _ _ q) e]
   .exact (aj z).trans q
  refine ⟨put AY p.1 (Ba xs n),le,fun a o q=>?_,.lst (DY ..) (r.mono (l1.trans le) (.refl _)) hn⟩
  by_cases z:a=p.1
  .rw [z,DY] at q
   rw [z,<-aa q];exact e
  .exact Ex _ _ ((aj z).symm.trans q)
theorem SG {f:Bool->V} (h:AD (FN a) (fun a'=>AD (FN b) fun b'=>AD (BR (V.eq 8 a' b')) fun c=>AF (f c)) st=some o) :
  ∃a' b' k,(a'=a\/∃i l,a = .ref i/\st.hp[i]? = some (.list l)/\a' = .lst l)/\(b'=b\/∃i l,b = .ref i/\st.hp[i]? = some (.list l)/\b' = .lst l)/\V.eq 8 a' b'=some k/\o = .ok (f k) st:=by
 rcases HP h with ⟨a',s1,ea,h⟩ | ⟨_,_,ea,_⟩
 .obtain ⟨_,q,xa⟩:=L8 ea
  cases q
  rcases HP h with ⟨b',s1,eb,h⟩ | ⟨_,_,eb,_⟩
  .obtain ⟨_,q,xb⟩:=L8 eb
   cases q
   rcases HP h with ⟨k,s1,ek,h⟩ | ⟨_,_,ek,_⟩
   .obtain ⟨_,Z0,q⟩:=Ip ek
    cases q
    exact ⟨a',b',k,xa,xb,Z0,B6 h⟩
   .obtain ⟨_,_,q⟩:=Ip ek
    cases q
  .obtain ⟨_,q,_⟩:=L8 eb
   cases q
 .obtain ⟨_,q,_⟩:=L8 ea
  cases q
theorem deep (H:AK AB w A AA Z φ ρ st s.heap) (va:VR w.params φ ρ ra a) (vb:VR w.params φ ρ rb b) (xa:a'=a\/∃i l,a = .ref i/\st.hp[i]? = some (.list l)/\a' = .lst l) (xb:b'=b\/∃i l,b = .ref i/\st.hp[i]? = some (.list l)/\b' = .lst l) (hk:V.eq 8 a' b'=some k) :
  RcAt A s ra rb k/\RcNeAt A s ra rb (!k):=by
 obtain ⟨φa,la,fa,ya⟩:=Sv H (.refl _) H.rel.fz va xa
 obtain ⟨φb,lb,fb,yb⟩:=Sv H la fa vb xb
 exact (Z3 fb 8 A a' b' ra rb k hk (ya.mono lb (.refl _)) yb (by have:=H.amb.un;lia)).2
theorem ju (H:AK AB w A AA Z φ ρ st s.heap) (va:VR w.params φ ρ ra a) (vb:VR w.params φ ρ rb b)
  (N:As AB w A AA Z φ ρ st s (AD (cmp .Eq a b) (fun c=>AF (V.bool c)) st) Q E):wpAny (model AB w) A (compareOp .Eq ra rb) Q E s:=by
 obtain ⟨o,e⟩:=N.get
 obtain ⟨a',b',k,xa,xb,hk,rfl⟩:=SG (f:=.bool) (by rw [<-e];exact congrFun (by simp only [<-A9];rfl) st)
 exact (deep H va vb xa xb hk).1 AB w E Q (N.done H e (.bool k))
theorem kG (H:AK AB w A AA Z φ ρ st s.heap) (va:VR w.params φ ρ ra a) (vb:VR w.params φ ρ rb b)
  (N:As AB w A AA Z φ ρ st s (AD (cmp .NotEq a b) (fun c=>AF (V.bool c)) st) Q E):wpAny (model AB w) A (compareOp .NotEq ra rb) Q E s:=by
 obtain ⟨o,e⟩:=N.get
 have e2:cmp .NotEq a b=AD (FN a) (fun a'=>AD (FN b) fun b'=>AD (BR (V.eq 8 a' b')) fun c=>AF (!c)):=rfl
 obtain ⟨a',b',k,xa,xb,hk,rfl⟩:=SG (f:=fun c=>.bool (!c)) (by rw [<-e,e2];exact congrFun (by simp only [A9] <;> rfl) st)
 exact (deep H va vb xa xb hk).2 AB w E Q (N.done H e (.bool (!k)))
theorem Nn {x y:Option α} {f:α->α->Bool} (h:AD (BY x y fun a b=>AF (f a b)) (fun c=>AF (g c)) st=some o):∃a b,x=some a/\y=some b/\o = .ok (g (f a b)) st:=by
 rcases HP h with ⟨c,s1,e,h⟩ | ⟨_,_,e,_⟩
 .obtain ⟨a,b,e1,e2,e3⟩:=EM e
  cases B6 e3
  exact ⟨a,b,e1,e2,B6 h⟩
 .obtain ⟨a,b,e1,e2,e3⟩:=EM e
  cases B6 e3
theorem Ur (hc:c=match a with | .int x=>BY (some x) b.int? fun x y=>AF (fi x y) | .str x=>BY (some x) b.B7 fun x y=>AF (fs x y) | _=>AG) (h:AD c (fun c=>AF (V.bool c)) st=some o) :
  (∃x y,a = .int x/\b = .int y/\o = .ok (.bool (fi x y)) st)\/∃x y,a = .str x/\b = .str y/\o = .ok (.bool (fs x y)) st:=by
 subst hc
 induction a using V.casesOn with
 |int x=>
  obtain ⟨_,y,e1,e2,e3⟩:=Nn h
  obtain rfl:=aa e1
  exact .inl ⟨x,y,rfl,V.FY e2,e3⟩
 |str x=>
  obtain ⟨_,y,e1,e2,e3⟩:=Nn h
  obtain rfl:=aa e1
  exact .inr ⟨x,y,rfl,V.Fp e2,e3⟩
 |_=>exact nn h
theorem j8 (H:AK AB w A AA Z φ ρ st s.heap) (va:VR w.params φ ρ ra a) (vb:VR w.params φ ρ rb b)
  (N:As AB w A AA Z φ ρ st s (AD (Rt a b) (fun c=>AF (V.bool c)) st) Q E):wpAny (model AB w) A (compareOp .Lt ra rb) Q E s:=by
 obtain ⟨o,e⟩:=N.get
 rcases Ur (fi:=fun x y=>decide (x<y)) (fs:=Dq) rfl e with ⟨x,y,rfl,rfl,rfl⟩ | ⟨x,y,rfl,rfl,rfl⟩
 .obtain ⟨_,rfl⟩:=va.B3
  obtain ⟨_,rfl⟩:=vb.B3
  exact PyProof.Rows.lt_int (N.done H e (.bool _))
 .obtain ⟨_,rfl⟩:=va.Bw
  obtain ⟨_,rfl⟩:=vb.Bw
  exact PySem.P.lt_str (N.done H e (.bool _))
theorem jy (H:AK AB w A AA Z φ ρ st s.heap) (va:VR w.params φ ρ ra a) (vb:VR w.params φ ρ rb b)
  (N:As AB w A AA Z φ ρ st s (AD (Rr a b) (fun c=>AF (V.bool c)) st) Q E):wpAny (model AB w) A (compareOp .Gt ra rb) Q E s:=by
 obtain ⟨o,e⟩:=N.get
 rcases Ur (fi:=fun x y=>decide (y<x)) (fs:=fun x y=>Dq y x) rfl e with ⟨x,y,rfl,rfl,rfl⟩ | ⟨x,y,rfl,rfl,rfl⟩
 .obtain ⟨_,rfl⟩:=va.B3
  obtain ⟨_,rfl⟩:=vb.B3
  exact PySem.P.gt_int (N.done H e (.bool _))
 .obtain ⟨_,rfl⟩:=va.Bw
  obtain ⟨_,rfl⟩:=vb.Bw
  exact PySem.P.gt_str (N.done H e (.bool _))
theorem jw (H:AK AB w A AA Z φ ρ st s.heap) (va:VR w.params φ ρ ra a) (vb:VR w.params φ ρ rb b)
  (N:As AB w A AA Z φ ρ st s (AD (Rq a b) (fun c=>AF (V.bool c)) st) Q E):wpAny (model AB w) A (compareOp .GtE ra rb) Q E s:=by
 obtain ⟨o,e⟩:=N.get
 obtain ⟨x,y,e1,e2,rfl⟩:=Nn e
 obtain rfl:=V.FY e1
 obtain rfl:=V.FY e2
 obtain ⟨_,rfl⟩:=va.B3
 obtain ⟨_,rfl⟩:=vb.B3
 exact PySem.P.ge_int (N.done H e (.bool _))
theorem RV {us:List Value} {ys:List V} {as:List α} (h:AV P φ ρ us ys) (e:DP p ys=some as):us.length=as.length/\∀u∈us,∃y a,VR P φ ρ u y/\p y=some a:=by
 induction ys generalizing us as with
 |nil=>rw [h.Co,<-aa e];exact ⟨rfl,fun u m=>(List.not_mem_nil m).elim⟩
 |cons y r ih=>
  obtain ⟨u,us,hu,t,rfl⟩:=h.Bx
  obtain ⟨a,as,e1,e2,e3⟩:=DG e
  rw [<-aa e3]
  obtain ⟨i1,i2⟩:=ih t e2
  refine ⟨congrArg (· + 1) i1,fun v m=>?_⟩
  rcases List.mem_cons.mp m with rfl | m
  .exact ⟨y,a,hu,e1⟩
  .exact i2 v m
theorem RU {g:Value->Bool} {q:α->Bool} (hg:∀u y a,VR P φ ρ u y->p y=some a->g u=q a) {us:List Value} {ys:List V} {as:List α} (h:AV P φ ρ us ys) (e:DP p ys=some as):us.any g=as.any q:=by
 induction ys generalizing us as with
 |nil=>rw [h.Co,<-aa e];rfl
 |cons y r ih=>
  obtain ⟨u,us,hu,t,rfl⟩:=h.Bx
  obtain ⟨a,as,e1,e2,e3⟩:=DG e
  rw [<-aa e3,List.any_cons,List.any_cons,ih t e2,hg u y a hu e1]
noncomputable def iu (i:Int):Value->Bool
 | .int j _=>j==i
 |_=>false
noncomputable def i9 (x:Str):Value->Bool
 | .str y _=>y==x
 |_=>false
theorem Td {rv:Value} {f:Value->Bool} (hs:RI w.params φ ρ s.heap rv l) (each:∀us,AV w.params φ ρ us l->us.any f=k/\∀u∈us,EqAt A.in1 s u rx (f u)) :
  (Q (.bool k) s->wpAny (model AB w) A (compareOp .In rx rv) Q E s)/\(Q (.bool (!k)) s->wpAny (model AB w) A (compareOp .NotIn rx rv) Q E s):=by
 obtain ⟨a,o,xs,n,T,rfl,hT,ho,hc,hd,hl,hn⟩:=hs
 obtain ⟨ek,ea⟩:=each _ hl
 clear each
 subst ek
 have each:∀y,y∈xs->EqAt A.in1 s y rx (f y):=fun y m=>ea y (Array.mem_toList_iff.mpr m)
 rw [Array.any_toList]
 rcases hT with rfl | rfl
 .exact ⟨in_listAt _ ⟨o,ho,hc,n,hd⟩ each,notIn_listAt _ ⟨o,ho,hc,n,hd⟩ each⟩
 .exact ⟨in_tupleAt _ ⟨o,ho,hc,n,hd⟩ each,notIn_tupleAt _ ⟨o,ho,hc,n,hd⟩ each⟩
theorem iS {x:V} {rv:Value} (H:AK AB w A AA Z φ ρ st s.heap) (hx:VR w.params φ ρ rx x) (hv:VR w.params φ ρ rv v) (hi:Cz st v l) (he:Lu x l=some k) :
  (Q (.bool k) s->wpAny (model AB w) A (compareOp .In rx rv) Q E s)/\(Q (.bool (!k)) s->wpAny (model AB w) A (compareOp .NotIn rx rv) Q E s):=by
 induction x using V.casesOn with
 |int i=>
  obtain ⟨is,e1,rfl⟩:=Option.map_eq_some_iff.mp (show (Cb l).map (·.any (· == i))=some k from he)
  obtain ⟨t,rfl⟩:=hx.B3
  refine Td (f:=iu i) (hi.seq H hv) fun us hl=>⟨RU (fun u y a hu e=>?_) hl e1,fun u m=>?_⟩
  .obtain rfl:=V.FY e
   obtain ⟨_,rfl⟩:=hu.B3
   rfl
  .obtain ⟨y,a,hu,e⟩:=(RV hl e1).2 u m
   obtain rfl:=V.FY e
   obtain ⟨_,rfl⟩:=hu.B3
   exact EqAt.int_int _ _ _ _
 |str i=>
  obtain ⟨is,e1,rfl⟩:=Option.map_eq_some_iff.mp (show (CU l).map (·.any (· == i))=some k from he)
  obtain ⟨t,rfl⟩:=hx.Bw
  refine Td (f:=i9 i) (hi.seq H hv) fun us hl=>⟨RU (fun u y a hu e=>?_) hl e1,fun u m=>?_⟩
  .obtain rfl:=V.Fp e
   obtain ⟨_,rfl⟩:=hu.Bw
   rfl
  .obtain ⟨y,a,hu,e⟩:=(RV hl e1).2 u m
   obtain rfl:=V.Fp e
   obtain ⟨_,rfl⟩:=hu.Bw
   exact EqAt.str_str _ _ _ _
 |_=>exact nn he
theorem Qw {es:List DictEntry} {l:List (Str × V)} (h:Az w.params φ ρ es l) (a:Str):(valueAt (D6 es l) a).isSome=(AN a l).isSome:=by
 induction l generalizing es with
 |nil=>rw [h.Co];rfl
 |cons p r ih=>
  obtain ⟨v,t,us,_,_,t,rfl⟩:=h.Bx
  have ih:=ih t
  rw [valueAt,Option.isSome_map] at ih ⊢
  by_cases q:p.1=a
  .exact Eq.trans (b:=true) (congrArg Option.isSome (List.find?_cons_of_pos (p:=fun kv:Str × Value=>decide (kv.1=a)) (decide_eq_true q))) (congrArg Option.isSome (ak (beq_iff_eq.mpr q):AN a (p::r)=some p.2)).symm
  .exact (congrArg Option.isSome (List.find?_cons_of_neg (p:=fun kv:Str × Value=>decide (kv.1=a)) (fun n=>q (of_decide_eq_true n)))).trans (ih.trans (congrArg Option.isSome (aj fun n=>q (eq_of_beq n):AN a (p::r)=AN a r)).symm)
def NX (AB:Program) (w:World) (A:Around) (E:Value->Shared->Prop) (Q:Value->Shared->Prop) (s:Shared) (rx ry:Value) (k:Bool):Prop:=
 ((∀tk,Q (.bool k) {s with toks:=tk})->wpAny (model AB w) A (compareOp .In rx ry) Q E s)/\((∀tk,Q (.bool (!k)) {s with toks:=tk})->wpAny (model AB w) A (compareOp .NotIn rx ry) Q E s)
theorem iR {x:V} {o:Out Bool} (H:AK AB w A AA Z φ ρ st s.heap) (hx:VR w.params φ ρ rx x) (hy:VR w.params φ ρ ry y) (h:JV x y st=some o):∃k,o = .ok k st/\NX AB w A E Q s rx ry k:=by
 rcases HP h with ⟨l,s1,e,h⟩ | ⟨_,_,e,_⟩
 .obtain ⟨_,q,hi⟩:=Ik e
  cases q
  obtain ⟨k,hk,rfl⟩:=Ip h
  obtain ⟨h1,h2⟩:=iS (E:=E) (Q:=Q) H hx hy hi hk
  exact ⟨k,rfl,fun q=>h1 (q s.toks),fun q=>h2 (q s.toks)⟩
 .obtain ⟨_,q,_⟩:=Ik e
  cases q
theorem iQ {a:Str} {o:Out Bool} (H:AK AB w A AA Z φ ρ st s.heap) (hx:VR w.params φ ρ rx (.str a)) (hy:VR w.params φ ρ ry (.ref i)) (h:PK a i st=some o):∃k,o = .ok k st/\NX AB w A E Q s rx ry k:=by
 obtain ⟨ob,TS,h⟩:=GB h
 obtain ⟨p,hi,rfl⟩:=hy.C8
 obtain ⟨t,rfl⟩:=hx.Bw
 have hk:(PySem.strKind AB w).is a (.str a t)=true:=by simp [PySem.strKind,Value.isStrOf]
 induction ob using O.casesOn with
 |set l=>
  obtain ⟨_,_,hS⟩:=H.rel.ob i _ _ TS hi
  exact ⟨_,B6 h,fun q=>wpAny_inSet_of (knd:=PySem.strKind AB w) (k:=a) hk rfl hS (q _),fun q=>wpAny_notInSet_of (knd:=PySem.strKind AB w) (k:=a) hk rfl hS (q _)⟩
 |dict l cl=>
  obtain ⟨_,_,nd,es,n,e,_,r⟩:=H.rel.ob i _ _ TS hi
  have D:=(dictAt (AB:=AB) e r nd).dictOf.mapOf
  have hs:=H.noSys (DV hi (.inl rfl))
  refine ⟨_,B6 h,fun q=>?_,fun q=>?_⟩
  .exact wpAny_in_of (knd:=PySem.strKind AB w) (k:=a) hk hs D (by rw [Qw r a];exact q _)
  .exact wpAny_notIn_of (knd:=PySem.strKind AB w) (k:=a) hk hs D (by rw [Qw r a];exact q _)
 |_=>exact nn h
theorem Te {x:V} {o:Out Bool} (H:AK AB w A AA Z φ ρ st s.heap) (hx:VR w.params φ ρ rx x) (hy:VR w.params φ ρ ry y) (h:inside x y st=some o):∃k,o = .ok k st/\NX AB w A E Q s rx ry k:=by
 have k:(∃a b,x = .str a/\y = .str b/\o = .ok (WB a b) st)\/(∃a i,x = .str a/\y = .ref i/\PK a i st=some o)\/JV x y st=some o:=by
  induction y using V.casesOn with
  |str b=>
   induction x using V.casesOn with
   |str a=>exact .inl ⟨a,b,rfl,rfl,B6 h⟩
   |_=>exact nn h
  |ref i=>
   induction x using V.casesOn with
   |str a=>exact .inr (.inl ⟨a,i,rfl,rfl,h⟩)
   |_=>exact .inr (.inr h)
  |_=>exact .inr (.inr h)
 rcases k with ⟨a,b,rfl,rfl,rfl⟩ | ⟨a,i,rfl,rfl,h⟩ | h
 .obtain ⟨_,rfl⟩:=hx.Bw
  obtain ⟨_,rfl⟩:=hy.Bw
  exact ⟨_,rfl,fun q=>PySem.P.in_str (q s.toks),fun q=>PySem.P.notIn_str (q s.toks)⟩
 .exact iQ H hx hy h
 .exact iR H hx hy h
theorem UA {op:CmpOp} (H:AK AB w A AA Z φ ρ st s.heap) (va:VR w.params φ ρ ra a) (vb:VR w.params φ ρ rb b)
  (N:As AB w A AA Z φ ρ st s (AD (cmp op a b) (fun c=>AF (V.bool c)) st) Q E):wpAny (model AB w) A (compareOp op ra rb) Q E s:=by
 induction op using CmpOp.casesOn with
 |Eq=>exact ju H va vb N
 |NotEq=>exact kG H va vb N
 |Lt=>exact j8 H va vb N
 |Gt=>exact jy H va vb N
 |GtE=>exact jw H va vb N
 |LtE=>exact (Ar.ne N rfl).elim
 |Is=>
  have N':As AB w A AA Z φ ρ st s (AD (BR (same a b)) (fun c=>AF (V.bool c)) st) Q E:=N
  induction q:BR (same a b) st using oc with
  |none=>exact (N'.ne (BQ q)).elim
  |some o=>
   obtain ⟨k,hk,rfl⟩:=Ip q
   exact (To hk va vb).1 ((N'.cast (AJ q)).pure H (.bool k) s.toks)
 |IsNot=>
  have N':As AB w A AA Z φ ρ st s (AD (AD (BR (same a b)) fun c=>AF (!c)) (fun c=>AF (V.bool c)) st) Q E:=N
  rw [A9] at N'
  induction q:BR (same a b) st using oc with
  |none=>exact (N'.ne (BQ q)).elim
  |some o=>
   obtain ⟨k,hk,rfl⟩:=Ip q
   exact (To hk va vb).2 ((N'.cast (AJ q)).pure H (.bool (!k)) s.toks)
 |In=>
  have N':As AB w A AA Z φ ρ st s (AD (inside a b) (fun c=>AF (V.bool c)) st) Q E:=N
  induction q:inside a b st using oc with
  |none=>exact (N'.ne (BQ q)).elim
  |some o=>
   obtain ⟨k,rfl,h1,_⟩:=Te (E:=E) (Q:=Q) H va vb q
   exact h1 fun tk=>(N'.cast (AJ q)).pure H (.bool k) tk
 |NotIn=>
  have N':As AB w A AA Z φ ρ st s (AD (AD (inside a b) fun c=>AF (!c)) (fun c=>AF (V.bool c)) st) Q E:=N
  rw [A9] at N'
  induction q:inside a b st using oc with
  |none=>exact (N'.ne (BQ q)).elim
  |some o=>
   obtain ⟨k,rfl,_,h2⟩:=Te (E:=E) (Q:=Q) H va vb q
   exact h2 fun tk=>(N'.cast (AJ q)).pure H (.bool (!k)) tk
theorem UI {o:Out (List V)} (h:listItems v st=some o):∃l,o = .ok l st/\Cz st v l/\(∀t,v≠.tup t):=by
 obtain ⟨c,h'⟩:=CE h
 obtain ⟨l,e,i⟩:=Ik h'
 exact ⟨l,e,i,fun t z=>by rw [z] at c;exact Bool.noConfusion (c:true=false)⟩
inductive XJ (P:Params) (φ:Fz) (ρ:AZ) (h:Heap) (rv:Value) (l:List V):Prop
 |mk (a:Addr) (xs:Array Value) (n:Nat) (e:rv = .ref a) (ho:h.get? a=some (Ba xs n)) (hl:AV P φ ρ xs.toList l) (hn:l.length<=1000)
theorem Cz.list' {rv:Value} (x:Cz st v l) (nt:∀t,v≠.tup t) (H:AK AB w A AA Z φ ρ st h) (hv:VR w.params φ ρ rv v):XJ w.params φ ρ h rv l:=by
 cases x with
 |lst=>obtain ⟨a,xs,n,hf,hl,e⟩:=hv.Fb;exact ⟨a,xs,n,e,H.rel.fz _ _ hf,hl,hv.Iq⟩
 |tup=>exact absurd rfl (nt _)
 |list hh=>
  obtain ⟨p,hi,e'⟩:=hv.C8
  obtain ⟨_,hn,xs,n,e,r⟩:=H.rel.ob _ _ _ hh hi
  exact ⟨_,xs,n,e',e,r,hn⟩
theorem Ar.listItems {α β:Type} {C:Fz->AZ->β->α->Prop} {v:V} {f:List V->M α} {Q:β->Shared->Prop} (N:Ar AB w A AA C Z φ ρ st s (AD (listItems v) f AL) Q E):∃l,Cz AL v l/\(∀t,v≠.tup t)/\Ar AB w A AA C Z φ ρ st s (f l AL) Q E:=by
 induction e:Mine.listItems v AL using oc with
 |none=>exact (N.ne (BQ e)).elim
 |some o=>
  obtain ⟨l,rfl,hi,nt⟩:=UI e
  exact ⟨l,hi,nt,N.cast (AJ e)⟩
theorem AV.rep (x:AV P φ ρ us l) (n:Nat):AV P φ ρ (List.replicate n us).flatten (List.replicate n l).flatten:=by
 induction n with
 |zero=>exact .nil
 |succ n ih=>exact x.append ih
theorem mW {l:Addr} {items:Array Value} {k:Nat} (hl:s.heap.get? l=some (Ba items k)) (Bc:-(2 ^ 63:Int)<=x) (TM:x<2 ^ 63) (CQ:items.size*x.toNat<=2 ^ 24)
  (h:Q (.ref s.heap.objs.size) {s with heap:=s.heap.push {cls:=.type "list",data:=.seq (List.replicate x.toNat items.toList).flatten.toArray}}) :
  wpAny (model AB w) A (binaryOp .Mult (.ref l) (.int x u)) Q E s:=by
 rw [<-listMul_foldl_if] at h
 exact wpAny_binaryOp_repeat_ref (T:="list") (U:="int") (by decide) ⟨_,hl,rfl⟩ (fun s'=>typeIs_int s' x u) noFill_list_mul F.fills_int_mul F.slot_int_rmul repeat_list F.slot_int_index.lookup
  (call_meets F.slot_int_rmul (typeIs_int s x u) F.entry_int_rmul (F.args_int_rmul_2 _ _) (int___rmul___int_list x u l items k)
   ⟨hl,rfl,⟨_,hl,rfl⟩,call_meets F.slot_list_mul ⟨_,hl,rfl⟩ F.entry_list_mul (F.args_list_mul_2 _ _)
    (AutoListH.list___mul___list_int_3 l items k x u (by simp [Builtin.List.listFitsIndex];lia) (by lia) (by simp [Builtin.List.listTooLong,sizeLine];lia))
    ⟨hl,h⟩⟩)
theorem VR.iZ {rv:Value} {i:Int} (h:VR P φ ρ rv (.int i)):∃t,rv = .int i t:=h.B3
theorem VR.I5 {rv:Value} {x:Str} (h:VR P φ ρ rv (.str x)):∃t,rv = .str x t/\x.length<=1000:=by
 obtain ⟨t,e⟩:=h.Bw
 exact ⟨t,e,h.I6⟩
theorem nQ {y:Int} (a:0<y) (b:y<1000):Builtin.divisionGoesByPylong x y=false:=by
 have z:y.natAbs.log2<10:=(Nat.log2_lt (by omega)).mpr (by
  have:(1000:Nat)<2 ^ 10:=by decide
  omega)
 exact PyProof.noPylong_of_log2 (Nat.lt_of_lt_of_le z (by decide))
theorem Pd {T:Sem Value} (H:AK AB w A AA Z φ ρ st s.heap) (va:VR w.params φ ρ ra a) (vb:VR w.params φ ρ rb b) (N:As AB w A AA Z φ ρ st s (FZ f a b st) Q E)
  (k:∀x y t u z,f x y=some z->(Q (.int z s.toks) {s with toks:=s.toks+1})->ra = .int x t->rb = .int y u->wpAny (model AB w) A T Q E s):wpAny (model AB w) A T Q E s:=by
 obtain ⟨o,e⟩:=N.get
 obtain ⟨x,y,z,rfl,rfl,hz,rfl⟩:=PR e
 obtain ⟨t,e1⟩:=va.B3
 obtain ⟨u,e2⟩:=vb.B3
 exact k x y t u z hz ((N.cast e).pure H (.int _ _) _) e1 e2
theorem Xg (h:KR a b st=some o):(∃x y,a = .int x/\b = .int y/\o = .ok (.int (x+y)) st)\/(∃x y,a = .str x/\b = .str y/\(x++y).length<=1000/\o = .ok (.str (x++y)) st)\/Nh a b st=some o:=by
 induction a using V.casesOn with
 |int x=>
  obtain ⟨_,y,e1,e2,e3⟩:=EM (show BY (some x) b.int? (fun x y=>AF (V.int (x+y))) st=some o from h)
  obtain rfl:=aa e1
  exact .inl ⟨x,y,rfl,V.FY e2,B6 e3⟩
 |str x=>
  obtain ⟨_,y,e1,e2,e3⟩:=EM (show BY (some x) b.B7 (fun x y=>if (x++y).length<=1000 then AF (V.str (x++y)) else AG) st=some o from h)
  obtain rfl:=aa e1
  obtain ⟨c,e3⟩:=CE e3
  exact .inr (.inl ⟨x,y,rfl,V.Fp e2,c,B6 e3⟩)
 |_=>exact .inr (.inr h)
theorem jh (H:AK AB w A AA Z φ ρ st s.heap) (va:VR w.params φ ρ ra a) (vb:VR w.params φ ρ rb b) (N:As AB w A AA Z φ ρ st s (Nh a b st) Q E) :
  wpAny (model AB w) A (binaryOp .Add ra rb) Q E s:=by
 obtain ⟨l,il,nl,N⟩:=Ar.listItems (f:=fun l=>AD (listItems b) fun r=>Bb (l++r)) N
 obtain ⟨r,ir,nr,N⟩:=N.listItems
 obtain ⟨p,xs,n,rfl,e1,v1,n1⟩:=il.list' nl H va
 obtain ⟨p',ys,m,rfl,e2,v2,n2⟩:=ir.list' nr H vb
 have z1:xs.size=l.length:=by rw [<-az,v1.length]
 have z2:ys.size=r.length:=by rw [<-az,v2.length]
 have hb:(2000:Nat)<=sizeLine:=by rw [sizeLine_eq];decide
 refine PySem.P.add_list e1 e2 ?_ (bg (Nat.add_le_add (z1 ▸ n1) (z2 ▸ n2)) hb)
 have z:=(Ma H (v1.append v2) N).2 0 s.toks
 rw [show (xs.toList++ys.toList).toArray=xs++ys by simp] at z
 exact z
theorem jg (H:AK AB w A AA Z φ ρ st s.heap) (va:VR w.params φ ρ ra a) (vb:VR w.params φ ρ rb b) (N:As AB w A AA Z φ ρ st s (KR a b st) Q E) :
  wpAny (model AB w) A (binaryOp .Add ra rb) Q E s:=by
 obtain ⟨o,e⟩:=N.get
 rcases Xg e with ⟨x,y,rfl,rfl,rfl⟩ | ⟨x,y,rfl,rfl,hl,rfl⟩ | e'
 .obtain ⟨t,rfl⟩:=va.B3
  obtain ⟨u,rfl⟩:=vb.B3
  exact wpAny_add_int ((N.cast e).pure H (.int _ _) _)
 .obtain ⟨t,rfl⟩:=va.Bw
  obtain ⟨u,rfl⟩:=vb.Bw
  refine PyProof.Rows.add_str (fun t' tk=>(N.cast e).pure H (.str _ t' hl) tk) (CS (n:=x.length+y.length) ?_)
  exact bg (Nat.le_of_eq (Array.size_append (xs:=x.cps) (ys:=y.cps)).symm) hl
 .exact jh H va vb (N.cast (e.trans e'.symm))
theorem kF (H:AK AB w A AA Z φ ρ st s.heap) (va:VR w.params φ ρ ra a) (vb:VR w.params φ ρ rb b) (N:As AB w A AA Z φ ρ st s (MZ a b st) Q E) :
  wpAny (model AB w) A (binaryOp .Mult ra rb) Q E s:=by
 obtain ⟨o,e⟩:=N.get
 obtain ⟨l,n,e1,e2,e3⟩:=EM e
 obtain ⟨⟨h0,hn⟩,e3⟩:=CE e3
 have N':=N.cast (e.trans e3.symm)
 clear N e e3
 obtain rfl:=V.UN e1
 obtain rfl:=V.FY e2
 have EV:=va.Iq
 obtain ⟨p,xs,m,hf,hl,rfl⟩:=va.Fb
 obtain ⟨t,rfl⟩:=vb.B3
 have z1:xs.size=l.length:=by rw [<-az,hl.length]
 have hb:(1000000:Nat)<=2 ^ 24:=by decide
 refine mW (H.rel.fz _ _ hf) (Int.le_trans (by decide) h0) (Int.lt_of_le_of_lt hn (by decide)) (bg (Nat.mul_le_mul (z1 ▸ EV) (Int.toNat_le.mpr hn)) hb) ?_
 exact (Ma H (hl.rep _) N').2 0 s.toks
theorem jk (H:AK AB w A AA Z φ ρ st s.heap) (va:VR w.params φ ρ ra a) (vb:VR w.params φ ρ rb b) (N:As AB w A AA Z φ ρ st s (DF op a b st) Q E) :
  wpAny (model AB w) A (binaryOp op ra rb) Q E s:=by
 induction op using Operator.casesOn with
 |Add=>exact jg H va vb N
 |Mult=>exact kF H va vb N
 |Sub=>
  refine Pd (f:=fun x y=>some (x-y)) H va vb N fun x y t u z e3 q=>?_
  rw [<-aa e3] at q
  rintro rfl rfl
  exact PyProof.Rows.sub_int q
 |FloorDiv=>
  refine Pd (f:=fun x y=>if 0<y/\y<1000 then some (Int.fdiv x y) else .none) H va vb N fun x y t u z e3 q=>?_
  obtain ⟨c,e3⟩:=Cu e3
  rw [<-aa e3] at q
  rintro rfl rfl
  exact PyProof.Rows.floordiv_int (Int.ne_of_gt c.1) q (.inl (nQ c.1 c.2))
 |Mod=>
  refine Pd (f:=fun x y=>if 0<y/\y<1000 then some (Int.fmod x y) else .none) H va vb N fun x y t u z e3 q=>?_
  obtain ⟨c,e3⟩:=Cu e3
  rw [<-aa e3] at q
  rintro rfl rfl
  exact PyProof.Rows.mod_int' (Int.ne_of_gt c.1) q
 |_=>exact (Ar.Bd N).elim
end
section
open PySem PySem.W PyProof.Rows PySem.Calls PySem.SeqAt Builtin Builtin.ObjectAttr Builtin.Getset_descriptor
variable {AB:Program} {w:World} {A:Around} {AA:Env} {Z:List Addr} {φ AE AY:Fz} {ρ ρ' Ad:AZ} {st st' AL:S} {h h' AH:Heap} {s:Shared} {AO i k j:Nat} {E Q:Value->Shared->Prop} {ih:Ih} {P:Params} {a x:Str} {p:Addr × Option Addr} {l:Loc} {v:V} {aug:Bool} {q C:Addr} {sl:Array (Option Value)} {b c:Option V} {K:Frag} {ox o:Obj} {od:Option Obj} {R:Result->Shared->Prop}
def G2 (P:Params) (a:Addr):Array DictEntry:=match (KK P).lookup a with
 |some ⟨_,_,.dict es _,_⟩=>es
 |_=>#[]
noncomputable def Uo (K:Frag) (a:Addr):Bool:=match K.lookup a with
 |some ⟨_,_,.dict es _,_⟩=>es.toList.all fun e=>match e.key with | .str ..=>true | _=>false
 |_=>false
theorem LC {a:Addr} (k:∀a o,(KK P).lookup a=some o->φ a=some o) (e:Uo (KK P) a=true):Gb φ a fun x=>nsFind (G2 P a) x:=by
 unfold Uo at e
 unfold G2
 induction q:(KK P).lookup a using oc with
 |none=>rw [q] at e;exact Bool.noConfusion e
 |some o=>
  rw [q] at e
  obtain ⟨oc,od,dt,sl⟩:=o
  induction dt using Data.casesOn with
  |dict es n=>
   refine ⟨_,es,n,k _ _ q,rfl,fun x hx=>?_,fun _=>rfl⟩
   have:=List.all_eq_true.mp e x (Array.mem_toList_iff.mpr hx)
   induction hk:x.key using Value.casesOn with
   |str n t=>exact ⟨n,t,rfl⟩
   |_=>rw [hk] at this;exact Bool.noConfusion this
  |_=>exact Bool.noConfusion e
theorem AK.CR (H:AK AB w A AA Z φ ρ st h):(KK w.params).In h:=fun a o e=>H.rel.fz _ _ (H.gl.kk a o e)
noncomputable abbrev tZ:Obj:=excClassObj "TopologicalSorter" "TopologicalSorter" 178 177 [.type "object"] [.type "object"] true [] [] false none none none none (some (.str "TopologicalSorter" 566)) (some (.str "TopologicalSorter" 574)) (some (.bool true)) "object.__new__"
theorem Pc (P:Params):(KK P).lookup 178=some tZ:=by kernel_rfl
theorem AK.Uh (H:AK AB w A AA Z φ ρ st h):h.Ns 177 fun x=>nsFind (G2 w.params 177) x:=(LC H.gl.kk (by kernel_rfl)).ns H.rel
theorem instName (h:EY.contains a=true) (P:Params):nsFind (G2 P 177) a=none/\typeLookup (.type "object") a=pure none:=by
 have:a∈EY:=List.contains_iff_mem.mp h
 simp only [EY,List.mem_cons,List.not_mem_nil,or_false] at this
 rcases this with rfl | rfl | rfl | rfl
 all_goals exact ⟨by kernel_rfl,by rw [typeLookup_type,builtinLookup_eq_fast];kernel_rfl⟩
set_option tactic.hygienic true in
theorem S0 {o:O} (h:A4 i st=some (.ok o st')):st'=st/\st.hp[i]? = some o:=by
 unfold A4 at h
 induction q:st.hp[i]? using oc with
 |some x=>rw [q] at h;cases h;exact ⟨rfl,rfl⟩
 |none=>rw [q] at h;exact nn h
theorem Sz {c:String} (h:A4 i st=some (.ex c st')):False:=by
 unfold A4 at h
 induction q:st.hp[i]? using oc <;> (rw [q] at h;cases h)
theorem Pz:∀{ρ:AZ},(Aa ρ).Nodup->∀{p:Addr × Option Addr},p∈ρ->∀{d:Addr},p.2=some d->p.1≠d
 |x::ρ,nd,p,hp,d,hd=>by
  have Px:((x.1::x.2.toList)++Aa ρ).Nodup:=nd
  obtain ⟨n1,n2,_⟩:=List.nodup_append.mp Px
  rcases List.mem_cons.mp hp with rfl | hp
  .rw [hd] at n1
   simp only [Option.toList_some,List.nodup_cons,List.mem_singleton] at n1
   exact n1.1
  .exact Pz n2 hp hd
theorem PO (H:AK AB w A AA Z φ ρ st h) (e:st.hp[i]? = some (.inst l)) (hp:ρ[i]? = some p) :
  l.length<=100/\∃d m,p.2=some d/\h.get? p.1=some (instObj Qd d)/\h.Ns1 d m/\(∀a,G0 w.params φ ρ (m a) (AN a l))/\d≠p.1/\h.Inst p.1 178 m:=by
 obtain ⟨n,d,m,e1,e2,e3,r⟩:=H.rel.ob _ _ _ e hp
 have CJ:d≠p.1:=by
  exact Ne.symm (Pz H.rel.nd (List.mem_of_getElem? hp) e1)
 exact ⟨n,d,m,e1,e2,e3,r,CJ,_,e2,rfl,(fun c q=>by cases q),.inr ⟨d,rfl,CJ,e3⟩⟩
theorem VR.handed {rv:Value} (h:VR P φ ρ rv v):handedIn rv=true:=
 VR.rec (motive_1:=fun v _ _=>handedIn v=true) (motive_2:=fun _ _ _=>True) (motive_3:=fun _ _ _=>True) rfl (fun _=>rfl) (fun _ _=>rfl) (fun _ _ _=>rfl) (fun _=>rfl) (fun _ _ _ _=>rfl) (fun _ _ _ _=>rfl) (fun _ _ _ _ _=>rfl) (fun _ _=>rfl) (fun _ _=>rfl) (fun _=>rfl) (fun _ h=>h) (fun _=>rfl) (fun _ _=>rfl) (fun _ _=>rfl) trivial (fun _ _ _ _=>trivial) trivial (fun _ _ _ _ _=>trivial) h
theorem Ob {x:Str}:∀{l:Loc},x∉l.map (·.1)->AN x l=none
 | [],_=>rfl
 | (y,u)::r,h=>by
  simp only [bq,List.mem_cons,not_or] at h
  rw [Ca,aj (by simpa using Ne.symm h.1)]
  exact Ob h.2
theorem uB (H:AK AB w A AA Z φ ρ st s.heap) (e:st.hp[i]? = some (.inst l)) (hp:ρ[i]? = some p) (ha:EY.contains a=true) {rv:Value} (hv:VR w.params φ ρ rv v)
  (hl:(Ao a v l).length<=100) (Bc:st.lo<=i) {Q:Unit->Shared->Prop} (h:∀h' tk,Al AB w A AA Z φ ρ st s.heap φ ρ {st with hp:=st.hp.set i (.inst (Ao a v l))} h'->Q () {s with heap:=h',toks:=tk}) :
  wpAny (model AB w) A (setAttr (.ref p.1) a rv) Q E s:=by
 obtain ⟨n,d,m,e1,e2,e3,r,CJ,I⟩:=PO H e hp
 obtain ⟨n1,n2⟩:=instName ha w.params
 have iL:p.1≠178:=fun q=>by
  have:=H.rel.ap p.1 (DV hp (.inl rfl))
  rw [q,H.gl.kk _ _ (Pc w.params)] at this
  cases this
 obtain ⟨hh,g,dr,t,os⟩:=s
 refine store_attr (ns:=l.map (·.1)) PySem.F.store_object (H.CR _ _ (Pc w.params)) H.Uh (by kernel_rfl) n1 n2 iL I (fun h' CI I' hk iD=>?_) (fun y hy=>?_) (by rw [bu,sizeLine_eq];lia)
 .obtain ⟨Ui,x1,x2,x3,x4,x5⟩:=iD _ e2
  have x6:=x5 d rfl
  have x7:Ui=instObj Qd d:=by
   obtain ⟨c,dd,dt,sl⟩:=Ui
   dsimp only at x2 x3 x4 x6
   rw [x2,x3,x4,x6]
  rw [x7] at x1
  obtain ⟨o',y1,y2,y3,y4⟩:=I'
  rw [x1] at y1
  obtain rfl:=aa y1
  have FT:h'.Ns1 d fun y=>if y=a then some rv else m y:=by
   rcases y4 with ⟨q,_⟩ | ⟨d',q,_,z⟩
   .cases q
   .obtain rfl:=aa q;exact z
  have O2:h'.get? d≠none:=by obtain ⟨o,_,_,q,_⟩:=FT;exact A8 q
  refine h h' CI (H.change hp (.inst (Ao a v l)) Bc (fun b o q h1 h2=>hk b o h1 (fun o0 dx q1 q2=>?_) q) (A8 x1) (fun d' q=>by rw [e1] at q;obtain rfl:=aa q;exact O2) ⟨hl,d,_,e1,x1,FT,fun y=>?_⟩)
  .rw [e2] at q1
   obtain rfl:=aa q1
   obtain rfl:=aa q2
   exact fun z=>h2 (by rw [e1,z])
  .by_cases q:y=a
   .subst q
    rw [ak rfl,Oc]
    exact hv
   .rw [aj q,Km v q]
    exact r y
 .refine Classical.byContradiction fun z=>?_
  have:=r y
  rw [Ob z] at this
  induction q:m y using oc with
  |none=>exact hy q
  |some u=>rw [q] at this;exact this
theorem uA (H:AK AB w A AA Z φ ρ st s.heap) (e:st.hp[i]? = some (.inst l)) (hp:ρ[i]? = some p) (ha:EY.contains a=true) (hl:AN a l=some v)
  (h:∀rv tk,VR w.params φ ρ rv v->Q rv {s with toks:=tk}):wpAny (model AB w) A (getAttr (.ref p.1) a aug) Q E s:=by
 obtain ⟨n,d,m,e1,e2,e3,r,CJ,I⟩:=PO H e hp
 obtain ⟨n1,n2⟩:=instName ha w.params
 have:=r a
 rw [hl] at this
 induction q:m a using oc with
 |none=>rw [q] at this;exact this.elim
 |some rv=>
  rw [q] at this
  obtain ⟨hh,g,dr,t,os⟩:=s
  exact load_attr (H.CR _ _ (Pc w.params)) H.Uh (by kernel_rfl) n1 n2 I q (handedOut_of (VR.handed this)) (h rv _ this)
noncomputable def Fj (a:Str):Option (Nat × Addr):=if a == "node" then some (0,82) else if a == "npredecessors" then some (1,83) else if a == "successors" then some (2,84) else none
set_option tactic.hygienic true in
theorem Mv (h:Fj a=some (i,q)):(a = "node"/\i=0/\q=82)\/(a = "npredecessors"/\i=1/\q=83)\/(a = "successors"/\i=2/\q=84):=by
 unfold Fj at h
 split at h
 .rename_i e;cases h;exact .inl ⟨by simpa using e,rfl,rfl⟩
 .split at h
  .rename_i e;cases h;exact .inr (.inl ⟨by simpa using e,rfl,rfl⟩)
  .split at h
   .rename_i e;cases h;exact .inr (.inr ⟨by simpa using e,rfl,rfl⟩)
   .exact nn h
theorem VY (h:Fj a=some (i,q)) (P:Params):findIn (KK P) (.ref 81) a=some (some (.ref q))/\specialIn (KK P) (.ref q) "__get__" = some (some (.builtin "member_descriptor.__get__"))/\
  takesIn (KK P) (.ref q)=some true/\slotIn (KK P) q 81=some i/\takerIn (KK P) 81 a=some (some (.ref q))/\typeIn (KK P) (.ref q)=some (.type "member_descriptor"):=by
 rcases Mv h with ⟨rfl,rfl,rfl⟩ | ⟨rfl,rfl,rfl⟩ | ⟨rfl,rfl,rfl⟩
 all_goals exact ⟨by kernel_rfl,by kernel_rfl,by kernel_rfl,by kernel_rfl,by kernel_rfl,by kernel_rfl⟩
noncomputable def VX (a b c:Option V):Nat->Option V
 |0=>a
 |1=>b
 |_=>c
theorem getD_some {v:Value} (h:sl.getD i none=some v):(sl[i]?).join=some v:=by
 rw [Array.getD_eq_getD_getElem?] at h
 induction q:sl[i]? using oc with
 |none=>rw [q] at h;exact nn h
 |some x=>rw [q] at h;rw [show x=some v from h];rfl
theorem nU (H:AK AB w A AA Z φ ρ st s.heap) {a:Option V} (e:st.hp[i]? = some (.node a b c)) (hp:ρ[i]? = some p) (hx:Fj x=some (k,q)) (hv:VX a b c k=some v)
  (h:∀rv tk,VR w.params φ ρ rv v->Q rv {s with toks:=tk}):wpAny (model AB w) A (getAttr (.ref p.1) x aug) Q E s:=by
 obtain ⟨d,sl,e1,e2,e3,r1,r2,r3⟩:=H.rel.ob _ _ _ e hp
 obtain ⟨f1,f2,f3,f4,_,_⟩:=VY hx w.params
 have I:InstAt s.heap p.1 {cls:=.ref Hu,dict:=some d,slots:=sl} 81 (some (HW #[] 0)):=⟨e2,rfl,rfl,e3⟩
 have r:slotR w.params φ ρ (sl.getD k none) (some v):=by
  rcases Mv hx with ⟨_,rfl,_⟩ | ⟨_,rfl,_⟩ | ⟨_,rfl,_⟩
  .exact (show a=some v from hv) ▸ r1
  .exact (show b=some v from hv) ▸ r2
  .exact (show c=some v from hv) ▸ r3
 induction z:sl.getD k none using oc with
 |none=>rw [z] at r;exact r.elim
 |some rv=>
  rw [z] at r
  exact get_bind H.CR I (by kernel_rfl) (findObj_data (by kernel_rfl) f1 f2 f3) (by kernel_rfl)
   (wpAny_call (slot_get (s:={s with toks:=s.toks+1}) H.CR I f4 (getD_some z) (handed_on (VR.handed r) (h rv _ r))))
noncomputable def Iu (i:Nat) (v:Value) (o:Obj):Obj:={o with slots:=(o.slots++Array.replicate (i+1-o.slots.size) none).setIfInBounds i (some v)}
theorem q7 {x p:Addr} {v:Value} (X:K.In s.heap) (I:InstAt s.heap x ox C od) (hp:slotIn K p C=some i) (hi:i<1000)
  (h:R (.ok (.ret .none)) {s with heap:=s.heap.update x (Iu i v)}) :
  codeAny (model AB w) A (.call (.builtin "member_descriptor.__set__") ⟨[.ref p,.ref x,v],[]⟩) R s:=by
 obtain ⟨n,tn,owner,behind,tb,d,sl,cd,ho,hc,hm,hb,rfl⟩:=slot_of X hp
 obtain ⟨hh,g,dr,t,os⟩:=s
 have hx:=I.at_
 have L0:=I.type (M:=model AB w)
 have L1:=looks_mroIn (M:=model AB w) X hm
 have L2:Looks (model AB w) hh (Slots.slotNamesOf (.ref C)) cd.slotNames:=(looks_clsIn X hc).andThen .now
 dsimp only at ho hx L0 L1
 have g0:=looks_field (M:=model AB w) ho 0 (v:=.str n tn) rfl
 have g1:=looks_field (M:=model AB w) ho 1 (v:=owner) rfl
 have g3:=looks_field (M:=model AB w) ho 3 (v:=.builtin "proto.slot#set") rfl
 have g4:=looks_field (M:=model AB w) ho 4 (v:=.int behind tb) rfl
 have g5:Looks (model AB w) hh (descrItself (.ref p)) [.ref p]:=((Looks.ld (part:=none) ho).andThen .now).andThen (Looks.of_pure (by kernel_rfl))
 refine codeAny_call_builtin KF.slot_mset.plain KF.entry_mset (KF.slot_mset.check _ _ _ _ _ _ _ _ ⟨_,ho,rfl⟩ (KF.args_mset _ _ _) ?_)
 unfold Builtin.«member_descriptor.__set__» descrSet descrStoreThrough descrCheckInstance descrNameAndClass isInstance
 repeat lk
 refine ⟨Code.quiet_builtin _ (by decide +kernel),codeAny_builtin KF.entry_slotset ?_⟩
 unfold Builtin.«proto.slot#set» Slots.target
 repeat lk
 rw [aj hb]
 refine aq (ah ?_)
 unfold setSlotAt
 dsimp only
 rw [aj (by rw [sizeLine_eq];omega)]
 exact wpAny_updatePart hx (aq h)
theorem QA {v:Value}:(Iu i v o).slots.getD j none=if j=i then some v else o.slots.getD j none:=by
 unfold Iu
 dsimp only
 simp only [Array.getD_eq_getD_getElem?]
 by_cases hj:j=i
 .subst hj
  rw [ak rfl,Array.getElem?_setIfInBounds_self_of_lt (by rw [Array.size_append,Array.size_replicate];omega)]
  rfl
 .rw [aj hj,Array.getElem?_setIfInBounds_ne (Ne.symm hj)]
  by_cases q:j<o.slots.size
  .rw [Array.getElem?_append_left q]
  .rw [Array.getElem?_append_right (by omega),Array.getElem?_replicate]
   have:o.slots[j]? = none:=Array.getElem?_eq_none (by omega)
   rw [this]
   split <;> rfl
noncomputable def VW (a b c:Option V) (v:V):Nat->O
 |0=>.node (some v) b c
 |1=>.node a (some v) c
 |_=>.node a b (some v)
theorem nZ (H:AK AB w A AA Z φ ρ st s.heap) {a:Option V} (e:st.hp[i]? = some (.node a b c)) (hp:ρ[i]? = some p) (hx:Fj x=some (k,q)) {rv:Value} (hv:VR w.params φ ρ rv v)
  (Bc:st.lo<=i) {Q:Unit->Shared->Prop} (h:∀h' tk,Al AB w A AA Z φ ρ st s.heap φ ρ {st with hp:=st.hp.set i (VW a b c v k)} h'->Q () {s with heap:=h',toks:=tk}):wpAny (model AB w) A (setAttr (.ref p.1) x rv) Q E s:=by
 obtain ⟨d,sl,e1,e2,e3,r1,r2,r3⟩:=H.rel.ob _ _ _ e hp
 obtain ⟨_,_,_,f4,f5,f6⟩:=VY hx w.params
 have I:InstAt s.heap p.1 {cls:=.ref Hu,dict:=some d,slots:=sl} 81 (some (HW #[] 0)):=⟨e2,rfl,rfl,e3⟩
 have CJ:p.1≠d:=Pz H.rel.nd (List.mem_of_getElem? hp) e1
 have hk:k<1000:=by rcases Mv hx with ⟨_,rfl,_⟩ | ⟨_,rfl,_⟩ | ⟨_,rfl,_⟩ <;> decide
 refine set_plain H.CR I (by kernel_rfl) (osa_descr (s:={s with toks:=s.toks+1}) KF.slot_mset H.CR I (by kernel_rfl) f5 f6 (q7 (s:={s with toks:=s.toks+1}) H.CR I f4 hk ?_))
 refine h _ _ ?_
 have hu:(s.heap.update p.1 (Iu k rv)).get? p.1=some (Iu k rv {cls:=.ref Hu,dict:=some d,slots:=sl}):=bz _ e2 rfl
 have hd':(s.heap.update p.1 (Iu k rv)).get? d=some (HW #[] 0):=(Heap.get?_update_ne _ _ _ _ (Ne.symm CJ)).trans e3
 refine H.change hp _ Bc (fun b' o z n1 _=>(Heap.get?_update_ne _ _ _ _ n1).trans z) (A8 hu) (fun d' z=>by rw [e1] at z;obtain rfl:=aa z;exact A8 hd') ?_
 rcases Mv hx with ⟨_,rfl,_⟩ | ⟨_,rfl,_⟩ | ⟨_,rfl,_⟩
 all_goals refine ⟨d,(Iu _ rv {cls:=.ref Hu,dict:=some d,slots:=sl}).slots,e1,hu,hd',(QA (o:={cls:=.ref Hu,dict:=some d,slots:=sl})).symm ▸ ?_,(QA (o:={cls:=.ref Hu,dict:=some d,slots:=sl})).symm ▸ ?_,(QA (o:={cls:=.ref Hu,dict:=some d,slots:=sl})).symm ▸ ?_⟩
 all_goals first | exact hv | exact r1 | exact r2 | exact r3
end
section
open PySem PySem.W PyProof.Rows PySem.Calls PySem.SeqAt Builtin Builtin.ObjectAttr Builtin.Getset_descriptor
set_option backward.match.sparseCases true
variable {AB:Program} {w:World} {A:Around} {AA:Env} {E Q:Value->Shared->Prop} {a:Addr} {s:Shared} {R:Result->Shared->Prop} {xs vs:Array Value} {k:Nat} {b:Bool}
theorem Pp:Slot "method_descriptor" "__get__" "method_descriptor.__get__":=
 .of (owner:="method_descriptor") (n:="__get__") (by rw [typeLookup_type,builtinLookup_eq_fast];kernel_rfl) (by decide +kernel) (by decide +kernel) (by decide +kernel)
  (by first | exact .inl (by decide +kernel) | exact .inr (by decide +kernel)) (by rw [isSubtype_type];kernel_rfl)
theorem lZ:typeLookup (.type "method_descriptor") "__set__" = pure none:=by rw [typeLookup_type,builtinLookup_eq_fast];kernel_rfl
theorem lX:typeLookup (.type "method_descriptor") "__delete__" = pure none:=by rw [typeLookup_type,builtinLookup_eq_fast];kernel_rfl
theorem lY:entryFor table "method_descriptor.__get__" = some Builtin.«method_descriptor.__get__»:=entryFor_of_tree (by kernel_rfl)
theorem lV (a b c:Value):argsOk "method_descriptor.__get__" ⟨[a,b,c],[]⟩:=by unfold argsOk;kernel_rfl
theorem lg:isSubtype (.type "list") (.type (".".intercalate ("list.append".cutAt '.').dropLast))=pure true:=by rw [isSubtype_type];kernel_rfl
theorem Pw:Slot "wrapper_descriptor" "__get__" "wrapper_descriptor.__get__":=
 .of (owner:="wrapper_descriptor") (n:="__get__") (by rw [typeLookup_type,builtinLookup_eq_fast];kernel_rfl) (by decide +kernel) (by decide +kernel) (by decide +kernel)
  (by first | exact .inl (by decide +kernel) | exact .inr (by decide +kernel)) (by rw [isSubtype_type];kernel_rfl)
theorem mu:typeLookup (.type "wrapper_descriptor") "__set__" = pure none:=by rw [typeLookup_type,builtinLookup_eq_fast];kernel_rfl
theorem mh:typeLookup (.type "wrapper_descriptor") "__delete__" = pure none:=by rw [typeLookup_type,builtinLookup_eq_fast];kernel_rfl
theorem mj:entryFor table "wrapper_descriptor.__get__" = some Builtin.«wrapper_descriptor.__get__»:=entryFor_of_tree (by kernel_rfl)
theorem mY (a b c:Value):argsOk "wrapper_descriptor.__get__" ⟨[a,b,c],[]⟩:=by unfold argsOk;kernel_rfl
theorem mw:isSubtype (.type "list_iterator") (.type (".".intercalate ("list_iterator.__next__".cutAt '.').dropLast))=pure true:=by rw [isSubtype_type];kernel_rfl
theorem UY:typeOf (.builtin "list_iterator.__next__")=pure (.type "wrapper_descriptor"):=by show builtinType _=_;rw [builtinType_eq_fast];kernel_rfl
theorem mq:typeLookup (.type "list_iterator") "__next__" = pure (some (.builtin "list_iterator.__next__")):=by rw [typeLookup_type,builtinLookup_eq_fast];kernel_rfl
theorem PV:Slot "list_iterator" "__getattribute__" "object.__getattribute__":=
 .of (owner:="object") (n:="__getattribute__") (by rw [typeLookup_type,builtinLookup_eq_fast];kernel_rfl) (by decide +kernel) (by decide +kernel) (by decide +kernel)
  (by first | exact .inl (by decide +kernel) | exact .inr (by decide +kernel)) (by rw [isSubtype_type];kernel_rfl)
theorem jB:entryFor table "object.__getattribute__" = some Builtin.«object.__getattribute__»:=entryFor_of_tree (by kernel_rfl)
theorem jA (a b:Value):argsOk "object.__getattribute__" ⟨[a,b],[]⟩:=by unfold argsOk;kernel_rfl
theorem lW (hT:s.TypeIs (.ref a) "list")
  (h:R (.ok (.ret (.ref s.heap.objs.size))) {s with heap:=s.heap.push {cls:=.type "builtin_function_or_method",data:=.fields #[.builtin "list.append",.ref a]}}) :
  codeAny (model AB w) A (.call (.builtin "method_descriptor.__get__") ⟨[.builtin "list.append",.ref a,.type "list"],[]⟩) R s:=by
 obtain ⟨hp,g,d,tk,os⟩:=s
 obtain ⟨⟨c,od,dt,sl⟩,ho,hc⟩:=hT
 dsimp only at hc ho
 subst hc
 have L:Looks (model AB w) hp _ true:=Looks.of_pure lg
 refine codeAny_call_builtin Pp.plain lY (Pp.check _ _ _ _ _ _ _ _ PySem.F.type_list_append (lV _ _ _) ?_)
 repeat lk
 exact h
theorem mZ (hT:s.TypeIs (.ref a) "list_iterator")
  (h:R (.ok (.ret (.ref s.heap.objs.size))) {s with heap:=s.heap.push {cls:=.type "method-wrapper",data:=.fields #[.builtin "list_iterator.__next__",.ref a]}}) :
  codeAny (model AB w) A (.call (.builtin "wrapper_descriptor.__get__") ⟨[.builtin "list_iterator.__next__",.ref a,.type "list_iterator"],[]⟩) R s:=by
 obtain ⟨hp,g,d,tk,os⟩:=s
 obtain ⟨⟨c,od,dt,sl⟩,ho,hc⟩:=hT
 dsimp only at hc ho
 subst hc
 have L:Looks (model AB w) hp _ true:=Looks.of_pure mw
 refine codeAny_call_builtin Pw.plain mj (Pw.check _ _ _ _ _ _ _ _ UY (mY _ _ _) ?_)
 repeat lk
 exact h
theorem lq (a:Addr) (xs:Array Value) (k:Nat) (u:Tok) :
  Meets (Builtin.«object.__getattribute__» ⟨[.ref a,.str "append" u],[]⟩) (fun _ R s=>s.heap.get? a=some {cls:=.type "list",dict:=none,data:=.seq xs k}/\R (.ok (.ret (.ref s.heap.objs.size))) {s with heap:=s.heap.push {cls:=.type "builtin_function_or_method",data:=.fields #[.builtin "list.append",.ref a]}}):=
 Meets.of_wp fun AB w _ R s hs=>by
  obtain ⟨hp,g,d,tk,os⟩:=s
  obtain ⟨hx,hs⟩:=hs
  have hT:(⟨hp,g,d,tk,os⟩:Shared).TypeIs (.ref a) "list":=⟨_,hx,rfl⟩
  have f1:typeLookup (.type "list") "append" = pure (some (.builtin "list.append")):=PySem.F.slot_list_append.lookup
  have f2:=PySem.F.type_list_append
  have f3:=Pp.lookup
  have f4:=lZ
  have f5:=lX
  unfold Builtin.«object.__getattribute__»
  repeat (any_goals (first | assumption | wp_step))
  exact lW hT (aq ⟨_,rfl,hs⟩)
theorem lu (a:Addr) (vs:Array Value) (u:Tok) :
  Meets (Builtin.«object.__getattribute__» ⟨[.ref a,.str "__next__" u],[]⟩) (fun _ R s=>s.heap.get? a=some {cls:=.type "list_iterator",dict:=none,data:=.fields vs}/\R (.ok (.ret (.ref s.heap.objs.size))) {s with heap:=s.heap.push {cls:=.type "method-wrapper",data:=.fields #[.builtin "list_iterator.__next__",.ref a]}}):=
 Meets.of_wp fun AB w _ R s hs=>by
  obtain ⟨hp,g,d,tk,os⟩:=s
  obtain ⟨hx,hs⟩:=hs
  have hT:(⟨hp,g,d,tk,os⟩:Shared).TypeIs (.ref a) "list_iterator":=⟨_,hx,rfl⟩
  have f1:=mq
  have f2:=UY
  have f3:=Pw.lookup
  have f4:=mu
  have f5:=mh
  unfold Builtin.«object.__getattribute__»
  repeat (any_goals (first | assumption | wp_step))
  exact mZ hT (aq ⟨_,rfl,hs⟩)
theorem cG (hx:s.heap.get? a=some {cls:=.type "list",dict:=none,data:=.seq xs k})
  (h:∀tk,Q (.ref s.heap.objs.size) {s with heap:=s.heap.push {cls:=.type "builtin_function_or_method",data:=.fields #[.builtin "list.append",.ref a]},toks:=tk}):wpAny (model AB w) A (getAttr (.ref a) "append" b) Q E s:=by
 obtain ⟨hp,g,d,tk,os⟩:=s
 have hT:∀CI,(⟨hp,g,d,CI,os⟩:Shared).TypeIs (.ref a) "list":=fun _=>⟨_,hx,rfl⟩
 have f3:=PySem.F.slot_list_getattribute.lookup
 have f4:=PySem.F.slot_list_getattribute.bind (.ref a)
 cases b
 all_goals
 unfold getAttr getAttrBy
 repeat (any_goals (first | assumption | exact hT _ | ((with_reducible show wpAny _ _ (call (Value.builtin "list.__getattribute__") _ _) _ _ _);refine call_meets PySem.F.slot_list_getattribute (hT _) am_entry_list_getattribute (PySem.F.args_list_getattribute_2 _ _) (lq a xs k _) ⟨hx,?_⟩) | wp_step))
 all_goals exact (show wpAny _ _ (handedOut (.ref _)) _ _ _ from aq (h _))
theorem cH (hx:s.heap.get? a=some {cls:=.type "list_iterator",dict:=none,data:=.fields vs})
  (h:∀tk,Q (.ref s.heap.objs.size) {s with heap:=s.heap.push {cls:=.type "method-wrapper",data:=.fields #[.builtin "list_iterator.__next__",.ref a]},toks:=tk}):wpAny (model AB w) A (getAttr (.ref a) "__next__" b) Q E s:=by
 obtain ⟨hp,g,d,tk,os⟩:=s
 have hT:∀CI,(⟨hp,g,d,CI,os⟩:Shared).TypeIs (.ref a) "list_iterator":=fun _=>⟨_,hx,rfl⟩
 have f3:=PV.lookup
 have f4:=PV.bind (.ref a)
 cases b
 all_goals
 unfold getAttr getAttrBy
 repeat (any_goals (first | assumption | exact hT _ | ((with_reducible show wpAny _ _ (call (Value.builtin "object.__getattribute__") _ _) _ _ _);refine call_meets PV (hT _) jB (jA _ _) (lu a vs _) ⟨hx,?_⟩) | wp_step))
 all_goals exact (show wpAny _ _ (handedOut (.ref _)) _ _ _ from aq (h _))
end
section
open PySem PySem.W PyProof.Rows PySem.Calls PySem.SeqAt
variable {AB:Program} {w:World} {A B:Around} {AA:Env} {Z:List Addr} {φ AE AY CC:Fz} {ρ ρ' Ad CP:AZ} {st st' AL Cw:S} {h h' AH Ax AS:Heap} {s:Shared} {AO i n j hd hd':Nat} {E Q:Value->Shared->Prop} {ih:Ih} {l as l':List V} {p:Addr × Option Addr} {α β:Type} {P:Params} {v:V} {a k x b y AM:Str} {t:Tok} {es:Array DictEntry} {od ob:Obj} {kvs:List (Str × Value)} {c msg:String} {xs:Array Value} {value slice e:Expr} {ro ri rl rh rf:Value} {lo hi:Option Int} {pos apos:Pos} {args:List (Bool × Sem Value)} {first vs:List Value} {r ss:List Str} {o:Out V} {d:Option Addr} {q:String × String} {cl:Bool} {it D:Addr} {ks:List (Option Expr)} {f:Int->Option Value} {C:Fz->AZ->β->α->Prop} {z:α} {bt:α->α->Bool} {g:α->α->α} {F:α->Value->Prop}
theorem Ar.obj {f:O->M α} {Q:β->Shared->Prop} (N:Ar AB w A AA C Z φ ρ st s (AD (A4 i) f st) Q E):∃o,st.hp[i]? = some o/\Ar AB w A AA C Z φ ρ st s (f o st) Q E:=by
 induction q:A4 i st using oc with
 |none=>exact (N.ne (BQ q)).elim
 |some r=>induction r using uc with
  |ok o st'=>obtain ⟨rfl,e⟩:=S0 q;exact ⟨o,e,N.cast (AJ q)⟩
  |ex c st'=>exact (Sz q).elim
theorem BK.obj {f:O->M α} {Q:α->Shared->Prop} (N:BK AB w A AA Z φ ρ st s (AD (A4 i) f st) Q E):∃o,st.hp[i]? = some o/\BK AB w A AA Z φ ρ st s (f o st) Q E:=by
 induction q:A4 i st using oc with
 |none=>exact (N.ne (BQ q)).elim
 |some r=>induction r using uc with
  |ok o st'=>obtain ⟨rfl,e⟩:=S0 q;exact ⟨o,e,N.cast (AJ q)⟩
  |ex c st'=>exact (Sz q).elim
theorem Ar.lift {o:Option α} {Q:β->Shared->Prop} (N:Ar AB w A AA C Z φ ρ st s (BR o st) Q E):∃a,o=some a/\Ar AB w A AA C Z φ ρ st s (AF a st) Q E:=by
 induction o using oc with
 |none=>exact N.Bd.elim
 |some a=>exact ⟨a,rfl,N⟩
theorem BK.set {i:Nat} {o:O} {Q:Unit->Shared->Prop} (N:BK AB w A AA Z φ ρ st s (BJ i o st) Q E) :
  st.lo<=i/\∀h' tk,Al AB w A AA Z φ ρ st s.heap φ ρ {st with hp:=st.hp.set i o} h'->Q () {s with heap:=h',toks:=tk}:=by
 by_cases Bc:st.lo<=i
 .have e:BJ i o st=some (.ok () {st with hp:=st.hp.set i o}):=ak Bc
  exact ⟨Bc,fun h' tk p=>N.ok _ _ e _ _ h' tk p⟩
 .exact (N.ne (aj Bc)).elim
theorem VR.Mi {rv:Value} (h:VR P φ ρ rv (.ref i)):∃p,rv = .ref p.1/\ρ[i]? = some p:=by
 obtain ⟨p,a,b⟩:=h.C8
 exact ⟨p,b,a⟩
theorem Ar.L7 {o:Obj} (N:As AB w A AA Z φ ρ st s (AF v st) Q E) (H:AK AB w A AA Z φ ρ st s.heap) (hf:o.isFreed=false) (hv:VR w.params (put φ s.heap.objs.size o) ρ (.ref s.heap.objs.size) v) (tk:Nat) :
  Q (.ref s.heap.objs.size) {s with heap:=s.heap.push o,toks:=tk}:=
 N.ok _ _ rfl _ _ ρ _ tk hv (H.Kl (fun _ _ e=>bf _ e) (EE _) (au _ hf))
theorem cF:FP (.ref i) a=AD (A4 i) fun o=>match o with
  | .inst l=>if EY.contains a then BR (AN a l) else AG
  | .node n p s=>if a == "node" then BR n else if a == "npredecessors" then BR p else if a == "successors" then BR s else AG
  | .list _=>if a == "append" then AF (.bm "append" i) else AG
  | .iter _ _=>if a == "__next__" then AF (.bm "__next__" i) else AG
  |_=>AG:=rfl
theorem nW {n p s:Option V} {f:Option V->α}:(if a == "node" then f n else if a == "npredecessors" then f p else if a == "successors" then f s else z)=match Fj a with
  |some (k,_)=>f (VX n p s k)
  |none=>z:=by
 unfold Fj
 split
 .rfl
 .split
  .rfl
  .split <;> rfl
set_option tactic.hygienic true in
theorem UC:RA AB w A AA:=by
 intro o a aug ro φ ρ Z st s E Q H vo N
 induction o using V.casesOn with
 |ref i=>
  obtain ⟨p,rfl,hp⟩:=vo.Mi
  rw [cF] at N
  obtain ⟨o,ho,N1⟩:=N.obj
  clear N
  have N:=N1
  clear N1
  induction o using O.casesOn with
  |inst l=>
   dsimp only at N
   split at N
   .rename_i ha
    obtain ⟨v,hv,N⟩:=N.lift
    exact uA H ho hp ha hv fun rv tk vr=>N.pure H vr tk
   .exact N.Bd.elim
  |node XZ X5 YW=>
   dsimp only at N
   rw [nW] at N
   induction hs:Fj a using oc with
   |none=>rw [hs] at N;exact N.Bd.elim
   |some kq=>
    obtain ⟨k,q⟩:=kq
    rw [hs] at N
    obtain ⟨v,hv,N⟩:=N.lift
    exact nU H ho hp hs hv fun rv tk vr=>N.pure H vr tk
  |list l=>
   dsimp only at N
   split at N
   .rename_i ha
    have ha:a = "append":=by simpa using ha
    subst ha
    obtain ⟨z,_,xs,n,e,_⟩:=H.rel.ob _ _ _ ho hp
    obtain ⟨p1,p2⟩:=p
    subst z
    exact cG e fun tk=>N.L7 H rfl (.app (DY ..) hp) tk
   .exact N.Bd.elim
  |iter l k=>
   dsimp only at N
   split at N
   .rename_i ha
    have ha:a = "__next__":=by simpa using ha
    subst ha
    obtain ⟨z,q,_,e⟩:=H.rel.ob _ _ _ ho hp
    obtain ⟨p1,p2⟩:=p
    subst z
    exact cH e fun tk=>N.L7 H rfl (.nxt (DY ..) hp) tk
   .exact N.Bd.elim
  |_=>exact N.Bd.elim
 |_=>exact N.Bd.elim
theorem qi:H6 (.ref i) a v=AD (A4 i) fun o=>match o with
  | .inst l=>if EY.contains a/\(Ao a v l).length<=100 then BJ i (.inst (Ao a v l)) else AG
  | .node n p s=>if a == "node" then BJ i (.node (some v) p s) else if a == "npredecessors" then BJ i (.node n (some v) s) else if a == "successors" then BJ i (.node n p (some v)) else AG
  |_=>AG:=rfl
theorem ng {n p s:Option V}:(if a == "node" then BJ i (.node (some v) p s) else if a == "npredecessors" then BJ i (.node n (some v) s) else if a == "successors" then BJ i (.node n p (some v)) else AG)=match Fj a with
  |some (k,_)=>BJ i (VW n p s v k)
  |none=>AG:=by
 unfold Fj
 split
 .rfl
 .split
  .rfl
  .split <;> rfl
set_option tactic.hygienic true in
theorem MV:HF AB w A AA:=by
 intro o v a ro rv φ ρ Z st s E Q H vo vv N
 induction o using V.casesOn with
 |ref i=>
  obtain ⟨p,rfl,hp⟩:=vo.Mi
  rw [qi] at N
  obtain ⟨o,ho,N1⟩:=N.obj
  clear N
  have N:=N1
  clear N1
  induction o using O.casesOn with
  |inst l=>
   dsimp only at N
   split at N
   .rename_i ha
    exact uB H ho hp ha.1 vv ha.2 N.set.1 N.set.2
   .exact N.Bd.elim
  |node XZ X5 YW=>
   dsimp only at N
   rw [ng] at N
   induction hs:Fj a using oc with
   |none=>rw [hs] at N;exact N.Bd.elim
   |some kq=>
    obtain ⟨k,q⟩:=kq
    rw [hs] at N
    dsimp only at N
    exact nZ H ho hp hs vv N.set.1 N.set.2
  |_=>exact N.Bd.elim
 |_=>exact N.Bd.elim
theorem Hp (k x:Str) (t:Tok):(PySem.strKind AB w).is k (.str x t)=(x==k):=by
 show Value.isStrOf k (.str x t)=_
 simp [Value.isStrOf]
noncomputable abbrev isKey (AB:Program) (w:World) (k:Str):DictEntry->Bool:=fun e=>(PySem.strKind AB w).is k e.key
theorem Az.set {rv:Value} (hv:VR w.params φ ρ rv v) (hk:k.length<=1000) {l:List (Str × V)}:∀{es:List DictEntry},Az w.params φ ρ es l->
  match es.findIdx? (isKey AB w k) with
  |some i=>Az w.params φ ρ (es.modify i fun e=>{e with val:=rv}) (Ao k v l)/\(Ao k v l).length=l.length
  |none=>Az w.params φ ρ (es++[⟨PyData.keyHash w.params k,.str k t,rv⟩]) (Ao k v l)/\(Ao k v l).length=l.length+1:=by
 induction l with
 |nil=>
  intro es h
  rw [h.Co]
  exact ⟨.cons hk hv .nil,rfl⟩
 |cons p xs ih=>
  intro es h
  obtain ⟨u,t',vs,Kv,hu,r,rfl⟩:=h.Bx
  have ih:=ih r
  obtain ⟨k',x'⟩:=p
  rw [List.findIdx?_cons]
  unfold isKey
  dsimp only
  rw [Hp,I1]
  by_cases q:(k'==k)=true
  .rw [ak q,ak q]
   exact ⟨.cons Kv hv r,rfl⟩
  .rw [aj q,aj q]
   unfold isKey at ih
   induction z:(vs.findIdx? (fun e=>(PySem.strKind AB w).is k e.key)) using oc with
   |some i=>rw [z] at ih;exact ⟨.cons Kv hu ih.1,congrArg (· + 1) ih.2⟩
   |none=>rw [z] at ih;exact ⟨.cons Kv hu ih.1,congrArg (· + 1) ih.2⟩
theorem qk:∀{l:Loc} {y:Str},y∈(Ao k v l).map (·.1)->y=k\/y∈l.map (·.1):=by
 intro l_
 induction l_ with
 |nil=>
  intro y h
  exact .inl (List.mem_singleton.mp h)
 |cons BN r AU=>
  obtain ⟨x,u⟩:=BN
  intro y h
  rw [I1] at h
  by_cases q:(x==k)=true
  .rw [ak q] at h;exact .inr h
  .rw [aj q,bq,List.mem_cons] at h
   rcases h with h | h
   .exact .inr (by rw [bq,h];exact .head _)
   .rcases AU h with h | h
    .exact .inl h
    .exact .inr (by rw [bq];exact .tail _ h)
theorem qm:∀{l:Loc},(l.map (·.1)).Nodup->((Ao k v l).map (·.1)).Nodup:=by
 intro l_
 induction l_ with
 |nil=>
  intro _
  exact List.pairwise_singleton ..
 |cons BN r AU=>
  obtain ⟨x,u⟩:=BN
  intro h
  rw [I1]
  by_cases q:(x==k)=true
  .rw [ak q];exact h
  .rw [aj q]
   rw [bq,List.nodup_cons] at h ⊢
   refine ⟨fun m=>?_,AU h.2⟩
   rcases qk m with m | m
   .exact q (by simpa using m)
   .exact h.1 m
theorem R5:∀{l:Loc},(CX k l).Sublist l:=by
 intro l_
 induction l_ with
 |nil=>
  exact .slnil
 |cons BN r AU=>
  obtain ⟨x,u⟩:=BN
  rw [KW]
  split
  .exact List.sublist_cons_self ..
  .exact AU.cons_cons _
theorem Az.keys' {l:List (Str × V)} (hl:Az w.params φ ρ es.toList l):KeysOf (PySem.strKind AB w) es:=fun e m=>hl.keys e (Array.mem_toList_iff.mpr m)
theorem bA {p:DictEntry->Bool}:es.findIdx? p=es.toList.findIdx? p:=by obtain ⟨l⟩:=es;simp
theorem dict_set {d:Addr} {l:Loc} {rv:Value} {Q:Unit->Shared->Prop} (he:s.heap.get? d=some od) (hd:od.data = .dict es n) (hl:Az w.params φ ρ es.toList l) (hv:VR w.params φ ρ rv v) (hk:k.length<=1000) (hn:l.length<=1000)
  (h:∀DH n' h' tk,h'.get? d=some {od with data:=.dict DH n'}->Az w.params φ ρ DH.toList (Ao k v l)->(n=l.length->n'=(Ao k v l).length)->(∀b o,s.heap.get? b=some o->b≠d->h'.get? b=some o)->Q () {s with heap:=h',toks:=tk}) :
  wpAny (model AB w) A (dictSet d (.str k t) rv) Q E s:=by
 obtain ⟨Nr,d0',dt0,sl0⟩:=od
 simp only at hd
 subst hd
 have Ie:(PySem.strKind AB w).is k (.str k t)=true:=by rw [Hp];simp
 have hz:es.size<=sizeLine:=CS (by rw [<-az,hl.length];exact hn)
 unfold dictSet
 refine bh (ah ((PySem.strKind AB w).pyHash Ie ?_))
 unfold dictSetHashed
 refine bh (ah (wpAny_dictFind_of (s:={s with toks:=s.toks+1}) Ie he rfl hl.keys' ?_))
 have main:=Az.set (AB:=AB) (t:=t) hv hk hl
 have sub:∀f b o,s.heap.get? b=some o->b≠d->(s.heap.update d f).get? b=some o:=fun f b o e n=>(Heap.get?_update_ne _ _ _ _ n).trans e
 have hi:=bA (es:=es) (p:=isKey AB w k)
 unfold isKey at hi main
 induction z:(es.findIdx? fun e=>(PySem.strKind AB w).is k e.key) using oc with
 |some i=>
  rw [hi] at z
  rw [z] at main
  refine ah (wpAny_rule (ah (wpAny_updateDict (s:={s with toks:=s.toks+1}) he rfl (wpAny_point (h (es.modify i fun e=>{e with val:=rv}) n _ _ (bz _ he rfl) ?_ (fun q=>by rw [main.2];exact q) (sub _))))))
  rw [Array.toList_modify]
  exact main.1
 |none=>
  rw [hi] at z
  rw [z] at main
  refine ah (wpAny_rule (wpAny_updateDictKeys (hz:=hz) (s:={s with toks:=s.toks+1}) he rfl (h (es.push ⟨PyData.keyHash w.params k,.str k t,rv⟩) (n+1) _ _ (bz _ he rfl) ?_ (fun q=>by rw [main.2,q]) (sub _))))
  rw [Array.toList_push]
  exact main.1
set_option tactic.hygienic true in
theorem Pe:IF AB w A AA:=by
 intro o i v ro ri rv φ ρ Z st s E Q H vo vi vv N
 .obtain ⟨_,e⟩:=N.get
  obtain ⟨r,k,h1,h2,_⟩:=EM e
  clear e
  obtain rfl:=V.VB h1
  obtain rfl:=V.Fp h2
  clear h1 h2
  obtain ⟨p,rfl,hp⟩:=vo.Mi
  obtain ⟨t,rfl,hk⟩:=vi.I5
  have N:BK AB w A AA Z φ ρ st s (AD (A4 r) (fun o=>match o with | .dict l cl=>if (Ao k v l).length<=1000 then BJ r (.dict (Ao k v l) cl) else AG | _=>AG) st) Q E:=N
  obtain ⟨o,ho,N1⟩:=N.obj
  clear N
  have N:=N1
  clear N1
  induction o using O.casesOn with
  |dict l cl=>
   dsimp only at N
   split at N
   .rename_i hlen
    obtain ⟨z,hn,nd,es,n,e,hc,hl⟩:=H.rel.ob _ _ _ ho hp
    obtain ⟨p1,p2⟩:=p
    subst z
    have hT:s.TypeIs (.ref p1) "dict":=⟨_,e,rfl⟩
    unfold setItem
    refine bh (ah (wpAny_sequenceKey hT (by decide) ?_))
    refine ah (wpAny_callSpecial?_slot (name:=Str.ofString "__setitem__") hT slot_dict_setitem
     (wpAny_call_entry slot_dict_setitem hT entry_dict_setitem ?_ (args_dict_setitem _ _ _)))
    show wpAny _ _ (Builtin.Dict.notOrdered "__setitem__" ⟨[.ref p1,.str k t,rv],[]⟩ >>= _) _ _ s
    refine ah (wpAny_notOrdered_dict hT ?_)
    show wpAny _ _ (dictSet p1 (.str k t) rv >>= _) _ _ s
    refine ah (dict_set e rfl hl vv hk hn fun DH n' h' tk e' EV Ig keep=>aq ⟨.none,rfl,aq ?_⟩)
    refine N.set.2 h' tk (H.change hp _ N.set.1 (fun b o q h1 _=>keep b o q h1) (A8 e') (fun d q=>by exact nn q) ⟨rfl,hlen,qm nd,DH,n',e',fun q=>Ig (hc q),EV⟩)
   .exact N.Bd.elim
  |_=>exact N.Bd.elim
inductive Eo (P:Params) (φ:Fz) (ρ:AZ):List (Str × Value)->List (Str × V)->Prop
 |nil:Eo P φ ρ [] []
 |cons {k:Str} {v:Value} {x:V} {kvs:List (Str × Value)} {l:List (Str × V)} (hk:k.length<=1000) (h:VR P φ ρ v x) (r:Eo P φ ρ kvs l):Eo P φ ρ ((k,v)::kvs) ((k,x)::l)
theorem Az.toK {l:List (Str × V)}:∀{es:List DictEntry},Az w.params φ ρ es l->Eo w.params φ ρ (D6 es l) l:=by
 induction l with
 |nil=>intro es h;cases h.Co;exact .nil
 |cons p l ih=>
  intro es h
  obtain ⟨v,t,r,hk,hv,hr,rfl⟩:=h.Bx
  exact .cons hk hv (ih hr)
theorem Eo.back {es:List DictEntry} (p:Pairs (PySem.strKind AB w) es kvs):∀{l:List (Str × V)},(∀e∈es,∃k,(PySem.strKind AB w).is k e.key=true/\e.hash=(PySem.strKind AB w).hash k)->Eo w.params φ ρ kvs l->Az w.params φ ρ es l:=by
 induction p with
 |nil=>
  intro l hk h
  cases h
  exact .nil
 | @cons e _ _ _ a b c ih=>
  intro l hk h
  cases h with
  |cons q1 q2 q3=>
   obtain ⟨k',z1,z2⟩:=hk e (.head _)
   obtain ⟨t,ht⟩:=Value.isStrOf_shape a
   rw [ht,Hp] at z1
   have z3:=eq_of_beq z1
   dsimp only at z3
   subst z3
   obtain ⟨hs,key,val⟩:=e
   dsimp only at ht b z2
   subst ht;subst b;subst z2
   exact .cons q1 q2 (ih (fun e m=>hk e (.tail _ m)) q3)
theorem Eo.keys {l:List (Str × V)} (h:Eo w.params φ ρ kvs l):kvs.map (·.1)=l.map (·.1):=by
 induction h with
 |nil=>rfl
 |cons _ _ _ ih=>exact congrArg _ ih
theorem xA (h:k∉kvs.map (·.1)):without kvs k=kvs:=by
 unfold without
 refine List.filter_eq_self.mpr fun x hx=>?_
 have:x.1≠k:=fun e=>h (List.mem_map.mpr ⟨x,hx,e⟩)
 simp [this]
theorem Eo.without {k:Str} {kvs:List (Str × Value)} {l:List (Str × V)} (h:Eo w.params φ ρ kvs l):(l.map (·.1)).Nodup->Eo w.params φ ρ (without kvs k) (CX k l):=by
 induction h with
 |nil=>exact fun _=>.nil
 | @cons k' _ _ kvs l hk h r ih=>
  intro nd
  rw [bq,List.nodup_cons] at nd
  unfold CX
  by_cases q:(k'==k)=true
  .rw [ak q]
   have q:k'=k:=by simpa using q
   subst q
   have:PySem.without kvs k'=kvs:=xA (by rw [r.keys];exact nd.1)
   unfold PySem.without at this ⊢
   rw [List.filter_cons_of_neg (by simp),this]
   exact r
  .rw [aj q]
   have q:k'≠k:=by simpa using q
   have:=ih nd.2
   unfold PySem.without at this ⊢
   rw [List.filter_cons_of_pos (by simp [q])]
   exact .cons hk h this
theorem ZV {l:Loc} (h:(l.map (·.1)).Nodup):((CX k l).map (·.1)).Nodup:=h.sublist (R5.map _)
set_option tactic.hygienic true in
theorem jt:Q9 AB w A AA:=by
 intro o i ro ri φ ρ Z st s E Q H vo vi N
 .obtain ⟨_,e⟩:=N.get
  obtain ⟨r,k,h1,h2,_⟩:=EM e
  clear e
  obtain rfl:=V.VB h1
  obtain rfl:=V.Fp h2
  clear h1 h2
  obtain ⟨p,rfl,hp⟩:=vo.Mi
  obtain ⟨t,rfl,hk⟩:=vi.I5
  have N:BK AB w A AA Z φ ρ st s (AD (A4 r) (fun o=>match o with | .dict l _=>if (AN k l).isSome then BJ r (.dict (CX k l) false) else AG | _=>AG) st) Q E:=N
  obtain ⟨o,ho,N1⟩:=N.obj
  clear N
  have N:=N1
  clear N1
  induction o using O.casesOn with
  |dict l cl=>
   dsimp only at N
   split at N
   .rename_i hs
    obtain ⟨z,hn,nd,es,n,e,hc,hl⟩:=H.rel.ob _ _ _ ho hp
    obtain ⟨p1,p2⟩:=p
    subst z
    have D:=(dictAt (AB:=AB) e hl nd).dictOf
    unfold delItem
    refine bh (ah (wpAny_sequenceKey D.typeIs (by decide) ?_))
    refine ah (wpAny_callSpecial?_slot (name:=Str.ofString "__delitem__") D.typeIs PySem.F.slot_dict_delitem
     (call_meetsIn PySem.F.slot_dict_delitem D.typeIs PySem.F.entry_dict_delitem (PySem.F.args_dict_delitem_2 _ _) (meets_dict_delitem_pairs (PySem.strKind AB w) p1 (k:=k) (by rw [Hp];simp)) ⟨_,D,CS (by rw [Gw hl];exact hn),by rw [Qw hl];exact hs,fun h' hm PD=>?_⟩))
    refine aq (N.set.2 h' _ ?_)
    obtain ⟨o',DH,Z1,e',⟨x1,x2,x3⟩,x4,x5,x6,x7⟩:=hm
    have Kv:=Eo.without (k:=k) hl.toK nd
    have hd:Az w.params φ ρ DH.toList (CX k l):=Kv.back x6 (fun e m=>x5 e (Array.mem_toList_iff.mp m))
    obtain ⟨c,dd,dt,sl⟩:=o'
    dsimp only at x1 x2 x3 x4
    subst x1;subst x2;subst x3;subst x4
    exact H.change hp _ N.set.1 (fun b o q h1 _=>(PD.2 b h1).trans q) (A8 e') (fun d q=>by cases q) ⟨rfl,bg R5.length_le hn,ZV nd,DH,Z1,e',(fun q=>by cases q),hd⟩
   .exact N.Bd.elim
  |_=>exact N.Bd.elim
theorem wm:entryFor table "proto.unchain" = some Builtin.«proto.unchain»:=entryFor_of_tree (by kernel_rfl)
noncomputable def starred (st:S) (c:String):String:=if st.hd=0 then c else "IndexError*"
theorem Ar.raised {Q:β->Shared->Prop} (N:Ar AB w A AA C Z φ ρ st s (DL c st) Q E) :
  (st.hd=0\/(st.hd=1/\c = "IndexError"))/\∀e h' tk,Em AA s.heap φ ρ h' e (starred st c)->Al AB w A AA Z φ ρ st s.heap φ ρ st h'->E e {s with heap:=h',toks:=tk}:=by
 unfold starred
 by_cases h0:st.hd=0
 .refine ⟨.inl h0,fun e h' tk f p=>N.ex c st ?_ e φ ρ h' tk (by rw [ak h0] at f;exact f) p⟩
  unfold DL;rw [ak h0]
 .by_cases h1:st.hd=1/\c = "IndexError"
  .refine ⟨.inr h1,fun e h' tk f p=>N.ex "IndexError*" st ?_ e φ ρ h' tk (by rw [aj h0] at f;exact f) p⟩
   unfold DL;rw [aj h0,ak h1]
  .refine (N.ne ?_).elim
   unfold DL;rw [aj h0,aj h1]
theorem vM (hB:B.handled=A.handled) {a:Addr} {vs:Array Value} {Q:α->Shared->Prop} (H:AK AB w A AA Z φ ρ st AS) (hh:st.hd=0\/(st.hd=1/\c = "IndexError")) (k:∀b o,AS.get? b=some o->s.heap.get? b=some o)
  (hn:AS.get? a=none) (ha:s.heap.get? a=some ob) (hc:ob.cls=Et c) (hd:ob.data = .fields vs) (hs:2<vs.size) (h1:vs[1]? = some .none) (h2:vs[2]? = some .none)
  (hE:∀h',(∀b o,AS.get? b=some o->h'.get? b=some o)->Em AA AS φ ρ h' (.ref a) (starred st c)->E (.ref a) {s with heap:=h'}):wpAny (model AB w) B (raiseNew (.ref a):Sem α) Q E s:=by
 have nr:a∉Aa ρ:=fun m=>H.rel.th a m hn
 have nf:φ a=none:=H.fresh hn
 unfold starred at hE
 rcases hh with h0 | ⟨h0,rfl⟩
 .refine wpAny_raiseNew_none (hB.trans (H.amb.hd.1 h0)) (hE s.heap k ?_)
  rw [ak h0]
  exact ⟨a,ob,vs,rfl,hn,nr,nf,ha,hc,hd,hs,fun _=>h2,.inl h1⟩
 .obtain ⟨x,ox,ws,e1,e2,e3,e4,e5,e6,e7⟩:=H.amb.hd.2 h0
  have hx:=k _ _ e2
  have ne:x≠a:=fun q=>by rw [q,hn] at e2;exact nn e2
  unfold raiseNew
  refine ah (wpAny_handled ?_)
  rw [hB,e1]
  have nb:((Value.ref x) != (Value.ref a))=true:=bne_iff_ne.mpr fun q=>ne (by cases q;rfl)
  dsimp only
  rw [ak nb]
  refine ah (bh (wpAny_runValue (codeAny_builtin wm ?_)))
  show wpAny _ _ (field (.ref x) 2 >>= _) _ _ s
  refine ah ((show Looks (model AB w) s.heap (field (.ref x) 2) .none from ?_).here ?_)
  .intro A' Q' E' s' k' q'
   refine ah (ah (wpAny_load (k' _ _ hx) ?_))
   obtain ⟨c',d',Zs,LN⟩:=ox
   dsimp only at e3
   subst e3
   refine aq ?_
   rw [e4]
   exact aq q'
  .refine aq ?_
   refine ah ?_
   unfold updateField
   refine ah (wpAny_load ha ?_)
   rw [hd]
   dsimp only
   rw [ak hs]
   refine wpAny_update' ha (wpAny_throw (hE _ (fun b o q=>(Heap.get?_update_ne _ _ _ _ (fun z=>by rw [z,hn] at q;exact nn q)).trans (k b o q)) ?_))
   rw [aj (by rw [h0];decide)]
   obtain ⟨c',d',Zs,LN⟩:=ob
   dsimp only at hd hc
   subst hd
   refine ⟨a,_,vs.setIfInBounds 2 (.ref x),rfl,hn,nr,nf,bz _ ha rfl,hc,rfl,by rw [Array.size_setIfInBounds];exact hs,fun z=>absurd rfl z,.inl ?_⟩
   rw [Array.getElem?_setIfInBounds_ne (by decide)]
   exact h1
theorem oK:PlainExc "IndexError":=plainExc_IndexError
theorem U6 (hB:B.handled=A.handled) {Q:α->Shared->Prop} (H:AK AB w A AA Z φ ρ st s.heap) (hh:st.hd=0\/(st.hd=1/\"IndexError" = "IndexError"))
  (hE:∀e h' tk,Em AA s.heap φ ρ h' e (starred st "IndexError")->Al AB w A AA Z φ ρ st s.heap φ ρ st h'->E e {s with heap:=h',toks:=tk}):wpAny (model AB w) B (raiseErrorWords "IndexError" msg:Sem α) Q E s:=by
 unfold raiseErrorWords
 refine ah (wpAny_mkText (ah (wpAny_newExc_plain oK fun h' e m=>?_)))
 obtain ⟨t,ht,_⟩:=m.there
 exact vM hB H hh m.keeps m.new ht rfl rfl (by simp) rfl rfl fun Ax k f=>hE _ Ax _ f (H.grow k)
theorem P8 {k:Int}:seqIndex? k n=place n k:=by
 unfold seqIndex? place
 induction k using Int.casesOn with
 |ofNat j=>
  have e:¬ (Int.ofNat j<0):=Int.not_lt.mpr (Int.natCast_nonneg j)
  simp only [aj e]
  by_cases q:j<n
  .rw [ak q,ak (by simp;lia)];rfl
  .rw [aj q,aj (by simp;lia)]
 |negSucc j=>
  have e:Int.negSucc j<0:=Int.negSucc_lt_zero j
  simp only [ak e]
  by_cases q:j+1<=n
  .rw [ak q,ak (by simp;lia)];congr 1;lia
  .rw [aj q,aj (by simp;lia)]
theorem place_lt {k:Int} (h:place n k=some j):j<n/\-(n:Int)<=k/\k<n:=by
 unfold place at h
 induction k using Int.casesOn with
 |ofNat i=>
  dsimp only at h
  split at h
  .obtain rfl:=aa h;refine ⟨by assumption,?_,?_⟩ <;> (simp only [Int.ofNat_eq_natCast];lia)
  .exact nn h
 |negSucc i=>
  dsimp only at h
  split at h
  .obtain rfl:=aa h;refine ⟨by lia,?_,?_⟩ <;> lia
  .exact nn h
theorem oJ {k:Int} (h:place n k=none):k < -(n:Int)\/(n:Int)<=k:=by
 unfold place at h
 induction k using Int.casesOn with
 |ofNat i=>
  dsimp only at h
  split at h
  .cases h
  .exact .inr (by simp only [Int.ofNat_eq_natCast];lia)
 |negSucc i=>
  dsimp only at h
  split at h
  .cases h
  .exact .inl (by lia)
theorem Lo:(-(2 ^ 63):Int)<=-5000/\(5000:Int)<2 ^ 63:=by decide
theorem ki {l:Addr} {k:Int} {x:Value} (hl:s.heap.IsList l xs) (hn:xs.size<=1000) (hp:place xs.size k=some j) (hx:xs[j]? = some x) (h:Q x s) :
  wpAny (model AB w) A (getItem (.ref l) (.int k t)) Q E s:=by
 obtain ⟨h1,h2,h3⟩:=place_lt hp
 have hb:=Lo
 by_cases h0:0<=k
 .obtain ⟨i,rfl⟩:=Int.eq_ofNat_of_zero_le h0
  have:place xs.size (Int.ofNat i)=some j:=hp
  unfold place at this
  dsimp only at this
  split at this
  .obtain rfl:=aa this
   exact wpAny_getItem_list hl h0 (by lia) hx h
  .exact nn this
 .refine wpAny_getItem_list_neg hl (by lia) (by lia) (by lia) ?_ h
  have:(k+xs.size).toNat=j:=by
   have:=P8 (n:=xs.size) (k:=k)
   rw [hp] at this
   unfold seqIndex? at this
   simp only [ak (show k<0 by lia)] at this
   rw [ak (by simp;lia)] at this
   exact aa this
  rw [this];exact hx
theorem ku {l:Addr} {k:Int} (H:AK AB w A AA Z φ ρ st s.heap) (hh:st.hd=0\/(st.hd=1/\"IndexError" = "IndexError")) (hl:s.heap.IsList l xs)
  (ML:k < -(xs.size:Int)\/(xs.size:Int)<=k) (Bc:-5000<=k) (TM:k<=5000)
  (hE:∀e h' tk,Em AA s.heap φ ρ h' e (starred st "IndexError")->Al AB w A AA Z φ ρ st s.heap φ ρ st h'->E e {s with heap:=h',toks:=tk}):wpAny (model AB w) A (getItem (.ref l) (.int k t)) Q E s:=by
 have hb:=Lo
 obtain ⟨o,ho,hc,ne,hd⟩:=id hl
 unfold getItem
 refine bh (ah (wpAny_sequenceKey hl.typeIs (by decide) ?_))
 refine ah (wpAny_callSpecial?_slot (name:=Str.ofString "__getitem__") hl.typeIs slot_list_getitem
  (wpAny_call_entry slot_list_getitem hl.typeIs entry_list_getitem ?_ (args_list_getitem _ _)))
 show wpAny _ _ (Builtin.List.listSubscript? (.int k t) >>= _) _ _ s
 refine ah (wpAny_listSubscript_int (fitsIndex_both (by lia) (by lia)) ?_)
 clear Bc TM
 induction k using Int.casesOn with
 |ofNat j=>
  have hx:xs[j]? = none:=by
   rcases ML with h | h
   .exact absurd h (by simp only [Int.ofNat_eq_natCast];lia)
   .exact Array.getElem?_eq_none (by have:(xs.size:Int)<=(j:Int):=h;lia)
  show wpAny _ _ ((seqItemAt l j >>= fun r=>pure (r.map (j,·))) >>= _) _ _ s
  refine ah (ah (wpAny_seqItemAt ho hd (aq ?_)))
  rw [hx]
  refine ah (wpAny_rule (ah ?_))
  exact U6 (A:=A) (B:=A.in1) rfl H hh hE
 |negSucc j=>
  have fZ:seqIndex? (Int.negSucc j) xs.size=none:=by
   rcases ML with h | h
   .exact seqIndex_below h
   .exact absurd h (by have:=Int.negSucc_lt_zero j;lia)
  show wpAny _ _ ((Builtin.List.listItems (.ref l) >>= fun xs=>pure ((seqIndex? (Int.negSucc j) xs.size).bind fun i=>xs[i]?.map (i,·))) >>= _) _ _ s
  refine ah (ah ?_)
  show wpAny _ _ (seqItems? (.ref l) >>= _) _ _ s
  refine ah (wpAny_seqItems ho hd (aq (aq ?_)))
  rw [fZ]
  refine ah (wpAny_rule (ah ?_))
  exact U6 (A:=A) (B:=A.in1) rfl H hh hE
theorem Az.find {es:List DictEntry} {l:List (Str × V)} (h:Az w.params φ ρ es l) {k:Str} {v:V} (hg:AN k l=some v):∃rv,(es.find? fun e=>(PySem.strKind AB w).is k e.key).map (·.val)=some rv/\VR w.params φ ρ rv v:=by
 induction l generalizing es with
 |nil=>exact nn hg
 |cons p r ih=>
  obtain ⟨u,t,us,_,hu,t,rfl⟩:=h.Bx
  rw [List.find?_cons]
  dsimp only
  rw [Hp]
  by_cases q:(p.1==k)=true
  .rw [q]
   exact ⟨u,rfl,aa ((ak q).symm.trans hg) ▸ hu⟩
  .have q':=Bool.not_eq_true _ ▸ q
   rw [q']
   exact ih t ((aj q).symm.trans hg)
theorem R7 {a:Addr} {l:Loc} (he:s.heap.get? a=some od) (hc:od.cls = .type "dict") (hd:od.data = .dict es n) (hl:Az w.params φ ρ es.toList l) (hg:AN k l=some v)
  (h:∀rv,VR w.params φ ρ rv v->Q rv {s with toks:=s.toks+1}):wpAny (model AB w) A (getItem (.ref a) (.str k t)) Q E s:=by
 obtain ⟨rv,h1,h2⟩:=hl.find (AB:=AB) hg
 have Ie:(PySem.strKind AB w).is k (.str k t)=true:=by rw [Hp];simp
 have hT:s.TypeIs (.ref a) "dict":=⟨_,he,hc⟩
 have hf:findBy (PySem.strKind AB w).is es k=some rv:=by
  unfold findBy
  rw [<-h1]
  obtain ⟨l⟩:=es
  simp
 rw [findBy_of_findIdx?] at hf
 unfold getItem
 refine bh (ah (wpAny_sequenceKey hT (by decide) ?_))
 refine ah (wpAny_callSpecial?_slot (name:=Str.ofString "__getitem__") hT slot_dict_getitem
  (wpAny_call_entry slot_dict_getitem hT entry_dict_getitem ?_ (args_dict_getitem _ _)))
 show wpAny _ _ (dictGet a (.str k t) >>= _) _ _ s
 unfold dictGet
 refine ah (bh (ah ((PySem.strKind AB w).pyHash Ie (ah (wpAny_dictFind_of (s:={s with toks:=s.toks+1}) Ie he hd hl.keys' ?_)))))
 induction hi:(es.findIdx? fun e=>(PySem.strKind AB w).is k e.key) using oc with
 |none=>rw [hi] at hf;exact nn hf
 |some i=>
  rw [hi] at hf
  refine ah (wpAny_dictEntries (s:={s with toks:=s.toks+1}) he hd (aq ?_))
  dsimp only at hf ⊢
  rw [hf]
  exact aq ⟨rv,rfl,aq (h rv h2)⟩
theorem IA {o i:Value} {T id:String} (hT:s.TypeIs o T) (hl:typeLookup (.type T) "__getitem__" = pure (some (.builtin id))) (hg:wpAny (model AB w) A (getItem o i) Q E s) :
  wpAny (model AB w) A (subscriptTail value slice o i) Q E s:=by
 have:∃ops,subscripted slice false o i=operate ops (getItem o i):=by
  induction slice using Expr.casesOn with
  |Slice lo up st p=>induction st using oc <;> exact ⟨_,rfl⟩
  |_=>exact ⟨_,rfl⟩
 obtain ⟨ops,e⟩:=this
 exact tail_any hT hl hg e
theorem kM {k:Int} (H:AK AB w A AA Z φ ρ st s.heap) (vo:VR w.params φ ρ ro (.str x)) (vi:VR w.params φ ρ ri (.int k)) (N:As AB w A AA Z φ ρ st s (J0 x k st) Q E) :
  wpAny (model AB w) A (subscriptTail value slice ro ri) Q E s:=by
 have EW:x.cps.size<=1000:=vo.I6
 obtain ⟨t,rfl⟩:=vo.Bw
 obtain ⟨u,rfl⟩:=vi.B3
 unfold J0 at N
 induction hj:place x.cps.size k using oc with
 |some j=>
  rw [hj] at N
  obtain ⟨h1,h2,h3⟩:=place_lt hj
  have hb:=Lo
  refine IA (typeIs_str s x t) PySem.F.slot_str_getitem.lookup (PyProof.Rows.getItem_str (c:=x.cps.getD j 0) (by simp only [Bool.or_eq_false_iff,decide_eq_false_iff_not];lia) ?_ (N.pure H (.str _ _ (by show 1<=1000;decide)) _))
  show (seqIndex? k x.cps.size).bind (x.cps[·]?)=_
  rw [P8,hj,Option.bind_some,Array.getElem?_eq_getElem h1]
  simp [Array.getD,h1]
 |none=>rw [hj] at N;exact N.Bd.elim
theorem jG {o:V} {r:Out V} (h:K7 o k st=some r):∃l v,(o = .dct l\/∃i cl,o = .ref i/\st.hp[i]? = some (.dict l cl))/\AN k l=some v/\r = .ok v st:=by
 induction o using V.casesOn with
 |dct l=>obtain ⟨v,a,b⟩:=Ip h;exact ⟨l,v,.inl rfl,a,b⟩
 |ref i=>
  obtain ⟨ob,ho,h⟩:=GB h
  induction ob using O.casesOn with
  |dict l cl=>obtain ⟨v,a,b⟩:=Ip h;exact ⟨l,v,.inr ⟨i,cl,rfl,ho⟩,a,b⟩
  |_=>exact nn h
 |_=>exact nn h
theorem j5 {o:V} (H:AK AB w A AA Z φ ρ st s.heap) (vo:VR w.params φ ρ ro o) (vi:VR w.params φ ρ ri (.str k)) (N:As AB w A AA Z φ ρ st s (K7 o k st) Q E) :
  wpAny (model AB w) A (subscriptTail value slice ro ri) Q E s:=by
 obtain ⟨r,e⟩:=N.get
 obtain ⟨l,v,ho,hv,rfl⟩:=jG e
 have M:=N.cast e
 clear N e
 obtain ⟨t,rfl⟩:=vi.Bw
 rcases ho with rfl | ⟨i,cl,rfl,ho⟩
 .obtain ⟨a,od,es,n,hf,hc,hd,hl,rfl⟩:=vo.R2
  exact IA ⟨_,H.rel.fz _ _ hf,hc⟩ slot_dict_getitem.lookup (R7 (H.rel.fz _ _ hf) hc hd hl hv fun rv r=>M.pure H r _)
 .obtain ⟨p,hp,rfl⟩:=vo.C8
  obtain ⟨z,hn,nd,es,n,e,hc,hl⟩:=H.rel.ob _ _ _ ho hp
  exact IA ⟨_,e,rfl⟩ slot_dict_getitem.lookup (R7 e rfl rfl hl hv fun rv r=>M.pure H r _)
theorem kJ {o:V} {k:Int} (H:AK AB w A AA Z φ ρ st s.heap) (vo:VR w.params φ ρ ro o) (vi:VR w.params φ ρ ri (.int k)) (N:As AB w A AA Z φ ρ st s (LL o k st) Q E) :
  wpAny (model AB w) A (subscriptTail value slice ro ri) Q E s:=by
 obtain ⟨u,rfl⟩:=vi.B3
 obtain ⟨l,hi,N⟩:=Ar.items (f:=fun l=>match place l.length k with | some j=>BR l[j]? | .none=>if Gv o=false/\-5000<=k/\k<=5000 then DL "IndexError" else AG) N
 induction hj:place l.length k using oc with
 |some j=>
  rw [hj] at N
  obtain ⟨x,hx,N⟩:=N.lift
  obtain ⟨a,ob,xs,n,T,rfl,hT,ha,hc,hd,hl,hn⟩:=hi.seq H vo
  have CQ:xs.size=l.length:=by rw [<-az,hl.length]
  obtain ⟨rx,e',r⟩:=hl.get hx
  rw [Array.getElem?_toList] at e'
  rw [<-CQ] at hj hn
  have Q':=N.pure H r s.toks
  obtain ⟨h1,h2,h3⟩:=place_lt hj
  have hb:=Lo
  rcases hT with rfl | rfl
  .exact IA ⟨ob,ha,hc⟩ slot_list_getitem.lookup (ki ⟨ob,ha,hc,n,hd⟩ hn hj e' Q')
  .exact IA ⟨ob,ha,hc⟩ PySem.F.slot_tuple_getitem.lookup (PyProof.Rows.getItem_tuple ⟨ob,ha,hc,n,hd⟩ (by clear N Q' hi H;lia) (by clear N Q' hi H;lia) (by rw [P8];exact hj) e' Q')
 |none=>
  rw [hj] at N
  by_cases hg:Gv o=false/\-5000<=k/\k<=5000
  .obtain ⟨hh,hE⟩:=(N.cast (congrFun (ak hg) st)).raised
   obtain ⟨a,xs,n,rfl,ha,hl,hn⟩:=hi.list' (fun t z=>by rw [z] at hg;exact Bool.noConfusion (hg.1:true=false)) H vo
   have CQ:xs.size=l.length:=by rw [<-az,hl.length]
   exact IA ⟨_,ha,rfl⟩ slot_list_getitem.lookup (ku H hh (Eb ha) (by rw [CQ];exact oJ hj) hg.2.1 hg.2.2 hE)
  .exact (N.ne (congrFun (aj hg) st)).elim
theorem jz {o i:V} (H:AK AB w A AA Z φ ρ st s.heap) (vo:VR w.params φ ρ ro o) (vi:VR w.params φ ρ ri i) (N:As AB w A AA Z φ ρ st s (item o i st) Q E) :
  wpAny (model AB w) A (subscriptTail value slice ro ri) Q E s:=by
 obtain ⟨r,e⟩:=N.get
 have k:(∃x k,o = .str x/\i = .int k)\/(∃k,i = .str k)\/∃k,i = .int k/\item o (.int k)=LL o k:=by
  induction i using V.casesOn with
  |int k=>
   induction o using V.casesOn with
   |str x=>exact .inl ⟨x,k,rfl,rfl⟩
   |_=>exact .inr (.inr ⟨k,rfl,rfl⟩)
  |str k=>exact .inr (.inl ⟨k,rfl⟩)
  |_=>exact nn e
 rcases k with ⟨x,k,rfl,rfl⟩ | ⟨k,rfl⟩ | ⟨k,rfl,e'⟩
 .exact kM H vo vi N
 .exact j5 H vo vi N
 .exact kJ H vo vi (e' ▸ N)
theorem Yx (k n:Nat):max 0 (min (k:Int) n)=((min k n:Nat):Int):=by
 rw [Int.max_eq_right (Int.le_min.mpr ⟨Int.natCast_nonneg k,Int.natCast_nonneg n⟩)]
 by_cases q:k<=n
 .rw [Nat.min_eq_left q,Int.min_eq_left (Int.ofNat_le.mpr q)]
 .rw [Nat.min_eq_right (Nat.le_of_not_le q),Int.min_eq_right (Int.ofNat_le.mpr (Nat.le_of_not_le q))]
theorem Yw (k n:Nat):max 0 (min (Int.negSucc k+n) (n:Int))=((n-(k+1):Nat):Int):=by
 have h:Int.negSucc k+n<=n:=Int.add_le_of_le_sub_right (by rw [Int.sub_self];exact Int.le_of_lt (Int.negSucc_lt_zero k))
 rw [Int.min_eq_left h,Int.add_comm,Int.max_comm]
 show max ((n:Int)-((k+1:Nat):Int)) 0=_
 by_cases q:k+1<=n
 .rw [Int.natCast_sub q,Int.max_eq_left (Int.sub_nonneg.mpr (Int.ofNat_le.mpr q))]
 .rw [Nat.sub_eq_zero_of_le (Nat.le_of_not_le q),Int.max_eq_right (Int.sub_nonpos_of_le (Int.ofNat_le.mpr (Nat.le_of_not_le q)))];rfl
theorem Lr {i:Int}:(let i:=if i<0 then i+n else i;max 0 (min i (n:Int)))=((clip n i:Nat):Int):=by
 induction i using Int.casesOn with
 |ofNat k=>
  show max 0 (min (if Int.ofNat k<0 then Int.ofNat k+n else Int.ofNat k) (n:Int))=_
  rw [aj (show ¬ Int.ofNat k<0 from Int.not_lt.mpr (Int.natCast_nonneg k))]
  exact Yx k n
 |negSucc k=>
  show max 0 (min (if Int.negSucc k<0 then Int.negSucc k+n else Int.negSucc k) (n:Int))=_
  rw [ak (Int.negSucc_lt_zero k)]
  exact Yw k n
theorem Yv {i:Int}:clip n i<=n:=by
 induction i using Int.casesOn with
 |ofNat k=>exact Nat.min_le_right k n
 |negSucc k=>exact Nat.sub_le n (k+1)
theorem YN:sliceBounds lo hi none n=(((lo.elim 0 (clip n):Nat):Int),((hi.elim n (clip n):Nat):Int),1):=by
 unfold sliceBounds
 simp -iota only [Option.getD_none,show (1:Int)>0 by decide,if_true]
 refine Prod.ext ?_ (Prod.ext ?_ rfl)
 .induction lo using oc with
  |none=>rfl
  |some i=>exact Lr
 .induction hi using oc with
  |none=>rfl
  |some i=>exact Lr
theorem oG {items:Array Value}:slicePick items lo hi none=(cut items.toList (lo.elim 0 (clip items.size)) (hi.elim items.size (clip items.size))).toArray:=by
 unfold slicePick
 simp only [YN]
 rw [sliceRange_one,pick_run]
 rfl
theorem uZ:Builtin.Str.strSliceIndices lo hi 1 n=(List.range ((hi.elim n (clip n))-(lo.elim 0 (clip n)))).map ((lo.elim 0 (clip n)) + ·):=by
 rw [<-sliceRange_one]
 unfold Builtin.Str.strSliceIndices
 simp -iota only [show (1:Int)>0 by decide,if_true]
 congr 1
 .induction lo using oc with
  |none=>rfl
  |some i=>exact Lr
 .induction hi using oc with
  |none=>rfl
  |some i=>exact Lr
theorem AV.R8:∀{vs:List Value} (n:Nat),AV P φ ρ vs l->AV P φ ρ (vs.drop n) (l.drop n)/\AV P φ ρ (vs.take n) (l.take n):=by
 induction l with
 |nil=>intro vs n h;cases h.Co;rw [List.drop_nil,List.drop_nil,List.take_nil,List.take_nil];exact ⟨.nil,.nil⟩
 |cons x l ih=>
  intro vs n h
  obtain ⟨u,us,hu,hr,rfl⟩:=h.Bx
  induction n using zc with
  |zero=>exact ⟨.cons hu hr,.nil⟩
  |succ n=>exact ⟨(ih n hr).1,.cons hu (ih n hr).2⟩
theorem AV.drop {P:Params} {vs:List Value} {l:List V} (h:AV P φ ρ vs l) (n:Nat):AV P φ ρ (vs.drop n) (l.drop n):=(h.R8 n).1
theorem AV.take {P:Params} {vs:List Value} {l:List V} (h:AV P φ ρ vs l) (n:Nat):AV P φ ρ (vs.take n) (l.take n):=(h.R8 n).2
inductive Gd:Value->Option Int->Prop
 |none:Gd .none .none
 |int (i:Int) (t:Tok):Gd (.int i t) (some i)
abbrev NS:Fz->AZ->Value->Option Int->Prop:=fun _ _ v i=>Gd v i
theorem Gd.part {v:Value} {i:Option Int} (h:Gd v i):IsPart v i:=by cases h <;> constructor
theorem S5 (he:∀e st,Au AB w A AA (eval e AA) st (ih.v (.ev e) st)) {e:Option Expr}:∀st,Di AB w A AA NS (evalPart e AA) st (D8 ih e st):=by
 intro st φ ρ Z s E Q H N
 induction e using oc with
 |none=>
  have N:Ar AB w A AA NS Z φ ρ st s (AF none st) Q E:=N
  rw [evalPart_none]
  exact aq (N.pure H .none s.toks)
 |some e=>
  have N:Ar AB w A AA NS Z φ ρ st s (AD (ih.v (.ev e)) (fun v=>match v with | .int i=>AF (some i) | _=>AG) st) Q E:=N
  rw [evalPart_some]
  refine (he e st).BH H N fun v AL rv AY Ad AH AO vv H1 Ah N1=>?_
  induction v using V.casesOn with
  |int i=>
   obtain ⟨t,rfl⟩:=vv.iZ
   exact N1.pure H1 (.int i t) AO
  |_=>exact N1.Bd.elim
theorem Ry {l:List α} {a b:Nat}:(cut l a b).length<=l.length:=by
 unfold cut
 rw [List.length_take,List.length_drop];lia
set_option tactic.hygienic true in
theorem uf {lo hi:Option (Int × Tok)} (hx:x.length<=1000)
  (h:∀t' tk,Q (.str ⟨(cut x.cps.toList ((lo.map (·.1)).elim 0 (clip x.cps.size)) ((hi.map (·.1)).elim x.cps.size (clip x.cps.size))).toArray⟩ t') {s with toks:=tk}):(sliceMade x t lo hi none).post Q s:=by
 have e:slicePicked x lo hi none=(List.range (((hi.map (·.1)).elim x.cps.size (clip x.cps.size))-((lo.map (·.1)).elim 0 (clip x.cps.size)))).map (((lo.map (·.1)).elim 0 (clip x.cps.size)) + ·):=uZ
 have e2:((slicePicked x lo hi none).filterMap (x.cps[·]?)).toArray=(cut x.cps.toList ((lo.map (·.1)).elim 0 (clip x.cps.size)) ((hi.map (·.1)).elim x.cps.size (clip x.cps.size))).toArray:=by
  rw [e,pick_run];rfl
 unfold sliceMade
 split
 .rename_i c
  have c:(slicePicked x lo hi none).length=x.length:=by simpa using c
  have c:(slicePicked x lo hi none).length=x.cps.size:=c
  rw [e,bu,List.length_range] at c
  have hb:((hi.map (·.1)).elim x.cps.size (clip x.cps.size))<=x.cps.size:=by
   induction hi using oc with
   |none=>exact ao _
   |some p=>exact Yv
  have h0:=h t s.toks
  have e3:cut x.cps.toList ((lo.map (·.1)).elim 0 (clip x.cps.size)) ((hi.map (·.1)).elim x.cps.size (clip x.cps.size))=x.cps.toList:=by
   unfold cut
   rw [c]
   by_cases z:x.cps.size=0
   .have:x.cps.toList=[]:=by rw [<-List.length_eq_zero_iff,az];exact z
    rw [this];simp
   .have:(lo.map (·.1)).elim 0 (clip x.cps.size)=0:=by lia
    rw [this,List.drop_zero,List.take_of_length_le (by rw [az];exact ao _)]
  rw [e3] at h0
  exact h0
 .rw [e2]
  refine ⟨CS ?_,h _ _⟩
  show (cut _ _ _).toArray.size<=1000
  rw [List.size_toArray]
  exact bg Ry (by rw [az];exact hx)
theorem Gd.pair {v:Value} {i:Option Int} (h:Gd v i):∃p:Option (Int × Tok),v=partValue p/\p.map (·.1)=i:=by
 cases h with
 |none=>exact ⟨Option.none,rfl,rfl⟩
 |int i t=>exact ⟨some (i,t),rfl,rfl⟩
set_option tactic.hygienic true in
theorem kK {o:V} (H:AK AB w A AA Z φ ρ st s.heap) (vo:VR w.params φ ρ ro o) (vl:Gd rl lo) (vh:Gd rh hi) (N:As AB w A AA Z φ ρ st s (Ej o lo hi st) Q E) :
  wpAny (model AB w) A (subscriptTail value slice ro (.ref s.heap.objs.size)) Q E {s with heap:=s.heap.push {cls:=.type "slice",data:=.fields #[rl,rh,.none]}}:=by
 have k:∀b x,s.heap.get? b=some x->(s.heap.push {cls:=.type "slice",data:=.fields #[rl,rh,.none]}).get? b=some x:=fun b x e=>bf _ e
 have Ah:=H.grow k
 have H1:=H.after Ah
 have N1:=N.after Ah s.toks
 unfold Ej at N1
 induction hs:o.B7 using oc with
 |some x=>
  obtain rfl:=V.Fp hs
  obtain ⟨t,rfl,hx⟩:=vo.I5
  obtain ⟨pl,rfl,el⟩:=vl.pair
  obtain ⟨ph,rfl,eh⟩:=vh.pair
  refine IA (typeIs_str _ x t) PySem.F.slot_str_getitem.lookup (wpAny_getItem_str_slice (l:=pl) (u:=ph) (st:=none) ⟨_,au _ rfl,rfl,rfl⟩ rfl (uf hx fun t' tk=>?_))
  rw [el,eh]
  refine N1.pure H1 (.str _ _ ?_) tk
  show (cut _ _ _).toArray.size<=1000
  rw [List.size_toArray]
  exact bg Ry (by rw [az];exact hx)
 |none=>
  rw [hs] at N1
  have N1:As AB w A AA Z φ ρ st _ (AD (listItems o) (fun l=>Bb (cut l (lo.elim 0 (clip l.length)) (hi.elim l.length (clip l.length)))) st) Q E:=N1
  induction q:listItems o st using oc with
  |none=>exact (N1.ne (BQ q)).elim
  |some r=>
   obtain ⟨l,rfl,il,nl⟩:=UI q
   have N2:=N1.cast (AJ q)
   obtain ⟨a,xs,n,rfl,e,NQ,hn⟩:=il.list' nl H vo
   have CQ:xs.size=l.length:=by rw [<-az,NQ.length]
   have:=Ma (s:={s with heap:=s.heap.push {cls:=.type "slice",data:=.fields #[rl,rh,.none]}}) H1 (((NQ.drop (lo.elim 0 (clip l.length))).take ((hi.elim l.length (clip l.length))-(lo.elim 0 (clip l.length))))) N2
   refine IA ⟨_,k _ _ e,rfl⟩ slot_list_getitem.lookup (wpAny_getItem_list_slice (Eb (k _ _ e)) (Heap.IsSliceOf.new ..) vl.part vh.part .none (by simp) ?_ (CS (by lia)))
   have z:=this.2 0 s.toks
   rw [oG,CQ]
   exact z
theorem Lw {o i pos}:Ih.v (step ih) (.ev (.Subscript o i pos))=G9 ih o i:=by
 exact Cy (by (try simp only [A9]);rfl)
theorem dJ (he:∀e st,Au AB w A AA (eval e AA) st (ih.v (.ev e) st)) {o i:Expr}:Au AB w A AA (eval (.Subscript o i pos) AA) st (Ih.v (step ih) (.ev (.Subscript o i pos)) st):=by
 intro φ ρ Z s E Q H N
 rw [Lw] at N
 induction hs:slice? i using oc with
 |none=>
  have N:As AB w A AA Z φ ρ st s (AD (ih.v (.ev o)) (fun ov=>AD (ih.v (.ev i)) fun iv=>item ov iv) st) Q E:=N.cast (by unfold G9;rw [hs])
  refine Subscript_ ((he o st).BH H N fun ov AL ro AY Ad AH AO vo H1 Ah N1=>(he i AL).BH H1 N1 fun iv st2 ri Ab Ae AR Aw vi H2 AW N2=>?_)
  exact jz (s:={s with heap:=AR,toks:=Aw}) H2 (vo.mono AW.ext.le AW.ext.pf) vi N2
 |some q=>
  obtain ⟨p,rfl⟩:=qy hs
  obtain ⟨lo,up,st'⟩:=q
  induction st' using oc with
  |some e=>exact (N.ne rfl).elim
  |none=>
   have N:As AB w A AA Z φ ρ st s (AD (ih.v (.ev o)) (fun ov=>AD (D8 ih lo) fun l=>AD (D8 ih up) fun u=>Ej ov l u) st) Q E:=N
   refine Subscript_ ((he o st).BH H N fun ov AL ro AY Ad AH AO vo H1 Ah N1=>wpAny_Slice ?_)
   refine (S5 he AL).BH H1 N1 fun l st2 rl Ab Ae AR Aw vl H2 AW N2=>?_
   refine (S5 he st2).BH H2 N2 fun u CH ru B9 B8 BE Cx vu H3 BB N3=>?_
   rw [evalPart_none]
   refine aq ?_
   exact kK (s:={s with heap:=BE,toks:=Cx}) H3 ((vo.mono AW.ext.le AW.ext.pf).mono BB.ext.le BB.ext.pf) vl vu N3
abbrev Q2 (w:World):Fz->AZ->Args->List V->Prop:=fun φ ρ a l=>a.kw=[]/\AV w.params φ ρ a.pos l
theorem Xs {M:Model} {f:Value} {x:Sem Value} {Q:Args->Shared->Prop}
  (h:wpAny M A x (fun v Ay=>wpAny M A (notIterableAtAll v) (fun b BX=>b=false/\wpAny M A (collect v) (fun vs Hz=>Q ⟨vs,[]⟩ Hz) E BX) E Ay) E s):wpAny M A (evalArgs f true [(true,x)] []) Q E s:=by
 unfold evalArgs
 refine ah (b9 h (fun v Ay AH=>ah (aq ?_)) fun _ _ x=>x)
 refine bh (ah (aq (ah (ah (b9 AH (fun b BX AR=>?_) fun _ _ x=>x)))))
 obtain ⟨rfl,AR⟩:=AR
 simp only [Bool.false_eq_true,if_false]
 exact bh (b9 AR (fun vs Hz BE=>aq BE) fun _ _ x=>x)
theorem RX {M:Model} {f:Value} {Q:Args->Shared->Prop} (hn:∀x,args≠[(true,x)]) (h:wpAny M A (spliced args) (fun vs s'=>Q ⟨vs,[]⟩ s') E s):wpAny M A (evalArgs f true args []) Q E s:=by
 unfold evalArgs
 match args,hn,h with
 | [],_,h=>exact ah (b9 h (fun vs s' h'=>ah (aq (bh (ah (aq (ah (aq (aq h')))))))) fun _ _ x=>x)
 | (false,x)::r,_,h=>exact ah (b9 h (fun vs s' h'=>ah (aq (bh (ah (aq (ah (aq (aq h')))))))) fun _ _ x=>x)
 | [(true,x)],hn,_=>exact absurd rfl (hn x)
 | (true,x)::y::r,_,h=>exact ah (b9 h (fun vs s' h'=>ah (aq (bh (ah (aq (ah (aq (aq h')))))))) fun _ _ x=>x)
theorem Ko (he:∀e st,Au AB w A AA (eval e AA) st (ih.v (.ev e) st)) {f:Value} (es:List Expr) (st:S):Di AB w A AA (Q2 w) (evalArgs f true (backTo pos (starEach es AA)) []) st (BG ih es st):=by
 intro φ ρ Z s E Q H N
 have many:(∀x,backTo pos (starEach es AA)≠[(true,x)])->wpAny (model AB w) A (evalArgs f true (backTo pos (starEach es AA)) []) Q E s:=fun hn=>
  RX hn (MA he es st φ ρ Z s E _ H ⟨N.ne,fun x st' e rv AE ρ' h' tk v p=>N.ok x st' e _ AE ρ' h' tk ⟨rfl,v⟩ p,N.ex⟩)
 induction es using lc with
 |nil=>exact many fun x q=>by cases q
 |cons e r=>
  induction Ez:Bk e using bc with
  |false=>exact many fun x q=>by rw [GV Ez] at q;cases q
  |true=>
   obtain ⟨e,p,rfl⟩:=LS Ez
   induction r using lc with
   |cons A3 r=>
    refine many fun x q=>?_
    have:(backTo pos (starEach (.Starred e p::A3::r) AA)).length=1:=by rw [q];rfl
    unfold backTo at this
    rw [bu,arm_starEach_Starred] at this
    induction h2:Bk A3 using bc with
    |false=>rw [GV h2] at this;simp at this
    |true=>
     obtain ⟨e',p',rfl⟩:=LS h2
     rw [arm_starEach_Starred] at this;simp at this
   |nil=>
    rw [Lx] at N
    rw [arm_starEach_Starred]
    show wpAny _ A (evalArgs f true [(true,(do let v <- eval e AA;standAt pos;pure v))] []) Q E s
    refine Xs (ah ((he e st).BH H N fun v AL rv AY Ad AH AO vv H1 Ah N1=>ah (wpAny_standAt (aq ?_))))
    induction hq:items v AL using oc with
    |none=>exact (N1.ne (BQ hq)).elim
    |some o=>
     obtain ⟨l,rfl,hi⟩:=Ik hq
     have N2:=N1.cast (AJ hq)
     refine Tq (s:={s with heap:=AH,toks:=AO}) H1 vv hi ⟨rfl,?_⟩
     refine UB (s:={s with heap:=AH,toks:=AO}) H1 vv hi fun vs AR vl k=>?_
     have AW:=H1.grow k
     have N3:Ar AB w A AA (Q2 w) _ _ _ _ _ (AF (l++[]) AL) Q E:=N2.after AW AO
     rw [List.append_nil] at N3
     exact N3.pure (rv:=⟨vs,[]⟩) (H1.after (s:={s with heap:=AH,toks:=AO}) AW) ⟨rfl,vl⟩ AO
theorem KV {M:Model} {f:Value}
  (h:wpAny M A (evalArgs f true args []) (fun a Ay=>(∃k,Looks M Ay.heap (keeperOf f) k)/\a.kw=[]/\wpAny M A (call f (first++a.pos) []) Q E Ay) E s):wpAny M A (callWith pos f first args []) Q E s:=by
 unfold callWith
 refine ah (bh (b9 h (fun x Ay AH=>ah (wpAny_standAt ?_)) fun _ _ x=>x))
 obtain ⟨⟨k,L⟩,hk,hc⟩:=AH
 obtain ⟨ps,kw⟩:=x
 dsimp only at hk hc
 subst hk
 have tail:∀{t:Sem Value},wpAny M A t Q E Ay->wpAny M A (t >>= fun r=>holding [r] point >>= fun _=>pure r) Q E Ay:=
  fun ht=>ah (b9 ht (fun r BX hr=>ah (bh (wpAny_point (aq hr)))) fun _ _ x=>x)
 refine ah (L.here ?_)
 have kept:∀vs,wpAny M A (callMarked vs f (first++ps) []) Q E Ay:=fun vs=>by unfold callMarked;exact wpAny_keep hc
 cases args.any (·.1) <;> cases k <;> simp only [List.any_nil,Bool.or_false]
 all_goals first
  |exact tail hc
  |exact tail (kept _)
  |exact tail (wpAny_operating hc)
  | (split <;> first | exact tail hc | exact tail (kept _))
theorem X6 (bt:α->α->Bool) (f:Nat->α) (g:α->α->α) (hg:∀a b,g a b=if bt b a then b else a):∀k,f (argBest (fun i j=>bt (f i) (f j)) k)=(List.range k).foldl (fun a i=>g a (f (i+1))) (f 0):=by
 intro k_
 induction k_ with
 |zero=>
  exact rfl
 |succ k AU=>
  rw [List.range_succ,List.foldl_append]
  unfold argBest
  simp only [List.foldl_cons,List.foldl_nil]
  rw [<-AU,hg]
  split <;> rfl
theorem bL (g:α->β->α) (r:List β) (d:β):∀(a:α),(List.range r.length).foldl (fun a i=>g a (r.getD i d)) a=r.foldl g a:=by
 induction r with
 |nil=>intro a;rfl
 |cons b r ih=>
  intro a
  rw [List.length_cons,List.range_succ_eq_map,List.foldl_cons,List.foldl_map]
  simp only [List.getD_cons_zero,List.getD_cons_succ]
  exact ih _
theorem lP:∀(r:List Int) (a:Int),Hr a r=r.foldl (fun a b=>if a<b then b else a) a:=by
 intro r_
 induction r_ with
 |nil=>
  intro _
  exact rfl
 |cons b r AU=>
  intro a
  exact AU _
theorem mD:∀(r:List Int) (a:Int),Pq a r=r.foldl (fun a b=>if b<a then b else a) a:=by
 intro r_
 induction r_ with
 |nil=>
  intro _
  exact rfl
 |cons b r AU=>
  intro a
  exact AU _
theorem lQ:∀(r:List Str) (a:Str),K9 a r=r.foldl (fun a b=>if Dq a b then b else a) a:=by
 intro r_
 induction r_ with
 |nil=>
  intro _
  exact rfl
 |cons b r AU=>
  intro a
  exact AU _
theorem Sm {α:Type} {c:α->α->Bool}:∀(r:List α) (a:α),r.foldl (fun a b=>if c a b then b else a) a∈a::r
 | [],a=>.head _
 |b::r,a=>by
  rw [List.foldl_cons]
  have:=Sm (c:=c) r (if c a b then b else a)
  rcases List.mem_cons.mp this with h | h
  .rw [h]
   split
   .exact .tail _ (.head _)
   .exact .head _
  .exact .tail _ (.tail _ h)
theorem AV.Cb {P:Params} {vs:List Value} {l:List V} {r:List Int} (h:AV P φ ρ vs l) (e:Mine.Cb l=some r):(∀i v,vs[i]? = some v->∃t,v=Value.int (r.getD i 0) t)/\vs.length=r.length:=by
 induction l generalizing vs r with
 |nil=>rw [h.Co,<-aa (e:some []=some r)];exact ⟨fun i v h=>nn h,rfl⟩
 |cons x l ih=>
  obtain ⟨u,us,hu,t,rfl⟩:=h.Bx
  obtain ⟨a,as,e1,e2,e3⟩:=DG (show both x.int? (DP V.int? l) (fun a as=>some (a::as))=some r from e)
  obtain rfl:=V.FY e1
  obtain ⟨i1,i2⟩:=ih t e2
  rw [<-aa e3]
  refine ⟨fun i v hv=>?_,congrArg (· + 1) i2⟩
  induction i using zc with
  |zero=>rw [<-aa (hv:some u=some v)];exact hu.B3
  |succ i=>exact i1 i v hv
theorem AV.Qg {P:Params} {vs:List Value} {l:List V} {r:List Str} (h:AV P φ ρ vs l) (e:Mine.CU l=some r):StrsAre vs r/\∀x∈r,x.length<=1000:=by
 induction l generalizing vs r with
 |nil=>rw [h.Co,<-aa (e:some []=some r)];exact ⟨.nil,fun x h=>(List.not_mem_nil h).elim⟩
 |cons x l ih=>
  obtain ⟨u,us,hu,t,rfl⟩:=h.Bx
  obtain ⟨a,as,e1,e2,e3⟩:=DG (show both x.B7 (DP V.B7 l) (fun a as=>some (a::as))=some r from e)
  obtain rfl:=V.Fp e1
  obtain ⟨i1,i2⟩:=ih t e2
  have ha:=hu.I6
  obtain ⟨tk,rfl⟩:=hu.Bw
  rw [<-aa e3]
  refine ⟨.cons a tk i1,fun x hx=>?_⟩
  rcases List.mem_cons.mp hx with rfl | hx
  .exact ha
  .exact i2 x hx
theorem ug {vs:List Value} {r:List Str} (h:StrsAre vs r) (i:Nat) (v:Value) (e:vs[i]? = some v):∃t,v=Value.str (r.getD i ⟨#[]⟩) t:=by
 induction h generalizing i with
 |nil=>exact nn e
 |cons y t h ih=>
  induction i using zc with
  |zero=>exact ⟨t,(aa e).symm⟩
  |succ i=>exact ih i e
theorem WD (h:StrsAre vs r):vs.length=r.length:=by
 induction h with
 |nil=>rfl
 |cons y t h ih=>exact congrArg (· + 1) ih
theorem uh (h:StrsAre vs r) (k:∀x∈r,x.length<=1000):AV P φ ρ vs (r.map V.str):=by
 induction h with
 |nil=>exact .nil
 |cons y t h ih=>exact .cons (.str y t (k y (.head _))) (ih fun x hx=>k x (.tail _ hx))
theorem RZ {m:M α} {C:Fz->AZ->Value->α->Prop} (N:Ar AB w A AA C Z φ ρ st s (Er m st) Q E):st.hd=0/\Ar AB w A AA C Z φ ρ st s (m st) Q E:=by
 unfold Er at N
 by_cases q:st.hd=0
 .rw [ak q] at N;exact ⟨q,N⟩
 .rw [aj q] at N;exact (N.ne rfl).elim
theorem Tp {l:Addr} (hk:∀b o,b∉[s.heap.objs.size]->(s.heap.push {cls:=.type "list_iterator",data:=.fields #[.ref l,.int 0 0]}).get? b=some o->h'.get? b=some o) :
  ∀b o,s.heap.get? b=some o->h'.get? b=some o:=old_kept hk
theorem U1 {a:α} {r:List α} {d:α} (hg:∀a b,g a b=if bt b a then b else a):(a::r).getD (argBest (fun i j=>bt ((a::r).getD i d) ((a::r).getD j d)) r.length) d=r.foldl g a:=by
 have:=X6 bt (fun i=>(a::r).getD i d) g hg r.length
 simp only [List.getD_cons_zero,List.getD_cons_succ] at this
 rw [this,bL]
theorem Rm {a:Addr} {xs:Array Value} {n:Nat} {α:Type} {x:α} {r:List α} {d:α} {bt:α->α->Bool} {g:α->α->α} {F:α->Value->Prop} {Q:Value->Shared->Prop} (hh:A.handled=none) (e:s.heap.get? a=some (Ba xs n))
  (hl:xs.size=r.length+1) (hF:∀i v,xs[i]? = some v->F ((x::r).getD i d) v) (hg:∀a b,g a b=if bt b a then b else a)
  (hc:∀a b va vb (s:Shared) (Q:Value->Shared->Prop) (E:Value->Shared->Prop),F a va->F b vb->Q (.bool (bt a b)) s->wpAny (model AB w) A.in1 (richCompare .Gt va vb) Q E s)
  (h:∀v h' tk,F (r.foldl g x) v->(∀b o,s.heap.get? b=some o->h'.get? b=some o)->Q v {s with heap:=h',toks:=tk}):wpAny (model AB w) A (call (.builtin "max") [.ref a]) Q E s:=by
 have Ky:=Eb e
 have Ey:a<s.heap.objs.size:=Heap.lt_size e
 refine call_max_walk (wpAny_pyIter_list Ky ?_)
 refine ⟨_,_,_,_,_,_,fun i j=>bt ((x::r).getD i d) ((x::r).getD j d),rfl,Walks.list (A:=A.in1) hh _ a (Nat.ne_of_lt Ey) xs,⟨⟨_,au _ rfl,rfl,rfl⟩,Ky.push _⟩,fun b hb=>?_,by lia,
  fun i j vi vj s' Q' E' hi hj hq=>hc _ _ vi vj s' Q' E' (hF i vi hi) (hF j vj hj) hq,fun v h' tk hP hk=>?_⟩
 .show b<(s.heap.push _).objs.size
  rw [Heap.size_push]
  rcases List.mem_cons.mp hb with rfl | hb
  .exact Nat.lt_succ_self _
  .rcases List.mem_cons.mp hb with rfl | hb
   .exact Nat.lt_succ_of_lt Ey
   .cases hb
 .refine h v h' tk ?_ (Tp hk)
  have:=hF _ v hP
  rw [show xs.size-1=r.length by lia,U1 hg] at this
  exact this
theorem Yg {a:Addr} {x:α} {r:List α} {d:α} (hh:A.handled=none) (e:s.heap.get? a=some (Ba xs n))
  (hl:xs.size=r.length+1) (hF:∀i v,xs[i]? = some v->F ((x::r).getD i d) v) (hg:∀a b,g a b=if bt b a then b else a)
  (hc:∀a b va vb (s:Shared) (Q:Value->Shared->Prop) (E:Value->Shared->Prop),F a va->F b vb->Q (.bool (bt a b)) s->wpAny (model AB w) A.in1 (richCompare .Lt va vb) Q E s)
  (h:∀v h' tk,F (r.foldl g x) v->(∀b o,s.heap.get? b=some o->h'.get? b=some o)->Q v {s with heap:=h',toks:=tk}):wpAny (model AB w) A (call (.builtin "min") [.ref a]) Q E s:=by
 have Ky:=Eb e
 have Ey:a<s.heap.objs.size:=Heap.lt_size e
 refine call_min_walk (wpAny_pyIter_list Ky ?_)
 refine ⟨_,_,_,_,_,_,fun i j=>bt ((x::r).getD i d) ((x::r).getD j d),rfl,Walks.list (A:=A.in1) hh _ a (Nat.ne_of_lt Ey) xs,⟨⟨_,au _ rfl,rfl,rfl⟩,Ky.push _⟩,fun b hb=>?_,by lia,
  fun i j vi vj s' Q' E' hi hj hq=>hc _ _ vi vj s' Q' E' (hF i vi hi) (hF j vj hj) hq,fun v h' tk hP hk=>?_⟩
 .show b<(s.heap.push _).objs.size
  rw [Heap.size_push]
  rcases List.mem_cons.mp hb with rfl | hb
  .exact Nat.lt_succ_self _
  .rcases List.mem_cons.mp hb with rfl | hb
   .exact Nat.lt_succ_of_lt Ey
   .cases hb
 .refine h v h' tk ?_ (Tp hk)
  have:=hF _ v hP
  rw [show xs.size-1=r.length by lia,U1 hg] at this
  exact this
def Q6 (i:Int) (v:Value):Prop:=∃t,v=Value.int i t
def XS (x:Str) (v:Value):Prop:=∃t,v=Value.str x t
theorem Qu {l:Option (List α)} {q:α × List α} (h:l.bind GX=some q):l=some (q.1::q.2):=by
 obtain ⟨l,rfl,e⟩:=FE h
 induction l using lc with
 |nil=>exact nn e
 |cons a r=>rw [<-aa e]
theorem lR (h:maxV l st=some o):(∃x r,Mine.Cb l=some (x::r)/\o = .ok (.int (Hr x r)) st)\/∃x r,Mine.CU l=some (x::r)/\o = .ok (.str (K9 x r)) st:=by
 unfold maxV at h
 induction q:(Mine.Cb l).bind GX using oc with
 |some q'=>rw [q] at h;exact .inl ⟨_,_,Qu q,B6 h⟩
 |none=>
  rw [q] at h
  dsimp only at h
  induction q2:(Mine.CU l).bind GX using oc with
  |some q'=>rw [q2] at h;exact .inr ⟨_,_,Qu q2,B6 h⟩
  |none=>rw [q2] at h;exact nn h
theorem j9 {rv:Value} (H:AK AB w A AA Z φ ρ st s.heap) (hv:VR w.params φ ρ rv v) (N:As AB w A AA Z φ ρ st s (Er (AD (listItems v) maxV) st) Q E):wpAny (model AB w) A (call (.builtin "max") [rv]) Q E s:=by
 obtain ⟨h0,N⟩:=RZ N
 have hh:=H.amb.hd.1 h0
 obtain ⟨l,il,nl,N⟩:=N.listItems
 obtain ⟨a,xs,n,rfl,e,vl,hn⟩:=il.list' nl H hv
 obtain ⟨o,eo⟩:=N.get
 have M:=N.cast eo
 clear N
 rcases lR eo with ⟨x,r,hi,rfl⟩ | ⟨x,r,hi,rfl⟩
 .obtain ⟨hF,hlen⟩:=vl.Cb hi
  rw [az] at hlen
  refine Rm (F:=Q6) (bt:=fun a b=>decide (a>b)) (d:=0) (x:=x) (r:=r) hh e hlen (fun i v hv=>hF i v (by rw [Array.getElem?_toList];exact hv)) (g:=fun a b=>if a<b then b else a) (fun a b=>by simp)
   (fun a b va vb s' Q' E' ha hb hq=>?_) fun v h' tk hv k=>?_
  .obtain ⟨t,rfl⟩:=ha
   obtain ⟨u,rfl⟩:=hb
   exact richCompare_gives (op:=.Gt) (typeIs_int s' _ t) (typeIs_int s' _ u) PySem.F.slot_int_gt PySem.F.entry_int_gt (PySem.F.args_int_gt_2 _ _) (gives_int_gt _ _ t u) (fun x=>nomatch x) hq
  .obtain ⟨t,rfl⟩:=hv
   have p:=H.grow k
   rw [<-lP]
   exact (M.after p tk).pure (H.after p) (.int _ t) tk
 .obtain ⟨hS,hx⟩:=vl.Qg hi
  have hlen:=WD hS
  rw [az] at hlen
  refine Rm (F:=XS) (bt:=fun a b=>Dq b a) (d:=⟨#[]⟩) (x:=x) (r:=r) hh e hlen (fun i v hv=>ug hS i v (by rw [Array.getElem?_toList];exact hv)) (g:=fun a b=>if Dq a b then b else a) (fun a b=>rfl)
   (fun a b va vb s' Q' E' ha hb hq=>?_) fun v h' tk hv k=>?_
  .obtain ⟨t,rfl⟩:=ha
   obtain ⟨u,rfl⟩:=hb
   exact (show wpAny _ _ (compareOp .Gt _ _) _ _ _ from PySem.P.gt_str hq)
  .obtain ⟨t,rfl⟩:=hv
   have p:=H.grow k
   have hm:=hx _ (Sm (c:=fun a b=>Dq a b) r x)
   rw [<-lQ] at hm ⊢
   exact (M.after p tk).pure (H.after p) (.str _ t hm) tk
theorem kE {rv:Value} (H:AK AB w A AA Z φ ρ st s.heap) (hv:VR w.params φ ρ rv v) (N:As AB w A AA Z φ ρ st s (Er (AD (listItems v) Je) st) Q E):wpAny (model AB w) A (call (.builtin "min") [rv]) Q E s:=by
 obtain ⟨h0,N⟩:=RZ N
 have hh:=H.amb.hd.1 h0
 obtain ⟨l,il,nl,N⟩:=N.listItems
 obtain ⟨a,xs,n,rfl,e,vl,hn⟩:=il.list' nl H hv
 unfold Je at N
 induction hi:(Mine.Cb l).bind GX using oc with
 |none=>rw [hi] at N;exact N.Bd.elim
 |some q=>
  rw [hi] at N
  obtain ⟨hF,hlen⟩:=vl.Cb (Qu hi)
  rw [az] at hlen
  refine Yg (F:=Q6) (bt:=fun a b=>decide (a<b)) (d:=0) (x:=q.1) (r:=q.2) hh e hlen (fun i v hv=>hF i v (by rw [Array.getElem?_toList];exact hv)) (g:=fun a b=>if b<a then b else a) (fun a b=>by simp)
   (fun a b va vb s' Q' E' ha hb hq=>?_) fun v h' tk hv k=>?_
  .obtain ⟨t,rfl⟩:=ha
   obtain ⟨u,rfl⟩:=hb
   exact richCompare_gives (op:=.Lt) (typeIs_int s' _ t) (typeIs_int s' _ u) PySem.F.slot_int_lt PySem.F.entry_int_lt (PySem.F.args_int_lt_2 _ _) (gives_int_lt _ _ t u) (fun x=>nomatch x) hq
  .obtain ⟨t,rfl⟩:=hv
   have p:=H.grow k
   rw [<-mD]
   exact (N.after p tk).pure (H.after p) (.int _ t) tk
def DU (a b:Str):Prop:=Dq b a=false
theorem T8 {c:Str} (h1:DU a b) (h2:DU b c):DU a c:=KeyOrd.kle_trans (O:=PyProof.Rows.strKind.toKeyOrd) (a:=a.cps.toList) (b:=b.cps.toList) (c:=c.cps.toList) h1 h2
theorem je (h1:DU a b) (h2:DU b a):a=b:=by
 have:=KeyOrd.kle_antisymm (O:=PyProof.Rows.strKind.toKeyOrd) (a:=a.cps.toList) (b:=b.cps.toList) h1 h2
 obtain ⟨⟨x⟩⟩:=a
 obtain ⟨⟨y⟩⟩:=b
 dsimp only at this
 have this:x=y:=this
 rw [this]
theorem T7 (h:Dq a b=true):DU a b:=KeyOrd.kle_of_klt (O:=PyProof.Rows.strKind.toKeyOrd) (a:=a.cps.toList) (b:=b.cps.toList) h
theorem V2:∀{l r:List Str},l.Perm r->l.Pairwise DU->r.Pairwise DU->l=r
 | [],r,p,_,_=>(List.nil_perm.mp p).symm
 |a::l,[],p,_,_=>absurd (List.perm_nil.mp p) (by simp)
 |a::l,b::r,p,hl,hr=>by
  obtain ⟨gQ,O1⟩:=List.pairwise_cons.mp hl
  obtain ⟨iB,iC⟩:=List.pairwise_cons.mp hr
  have ez:a=b:=by
   have ha:a∈b::r:=p.mem_iff.mp (.head _)
   have hb:b∈a::l:=p.mem_iff.mpr (.head _)
   rcases List.mem_cons.mp ha with h | ha
   .exact h
   .rcases List.mem_cons.mp hb with h | hb
    .exact h.symm
    .exact je (gQ b hb) (iB a ha)
  subst ez
  rw [V2 ((List.perm_cons a).mp p) O1 iC]
theorem Th:Gs x (y::r)=if Dq x y then x::y::r else y::Gs x r:=rfl
theorem PN (x:Str):∀l:List Str,(Gs x l).Perm (x::l)
 | []=>.refl _
 |y::r=>by
  rw [Th]
  split
  .exact .refl _
  .exact ((PN x r).cons y).trans (List.Perm.swap x y r)
set_option tactic.hygienic true in
theorem Tg (x:Str):∀{l:List Str},l.Pairwise DU->(Gs x l).Pairwise DU
 | [],_=>List.pairwise_singleton ..
 |y::r,h=>by
  obtain ⟨h1,h2⟩:=List.pairwise_cons.mp h
  rw [Th]
  split
  .rename_i q
   refine List.pairwise_cons.mpr ⟨fun z hz=>?_,h⟩
   rcases List.mem_cons.mp hz with rfl | hz
   .exact T7 q
   .exact T8 (T7 q) (h1 z hz)
  .rename_i q
   refine List.pairwise_cons.mpr ⟨fun z hz=>?_,Tg x h2⟩
   rcases List.mem_cons.mp ((PN x r).mem_iff.mp hz) with rfl | hz
   .exact (Bool.not_eq_true _).mp q
   .exact h1 z hz
theorem So:∀(l a:List Str),a.Pairwise DU->(l.foldl (fun a x=>Gs x a) a).Perm (l++a)/\(l.foldl (fun a x=>Gs x a) a).Pairwise DU
 | [],a,h=>⟨.refl _,h⟩
 |x::l,a,h=>by
  rw [List.foldl_cons]
  obtain ⟨i1,i2⟩:=So l (Gs x a) (Tg x h)
  refine ⟨i1.trans ?_,i2⟩
  refine ((PN x a).append_left l).trans ?_
  exact List.perm_middle
theorem Qe (l:List Str):(DB l).Perm l/\(DB l).Pairwise DU:=by
 have:=So l [] .nil
 rw [List.append_nil] at this
 exact this
theorem VE:∀(p:Str) (l:List Str),risingS p l=true->(p::l).Pairwise DU
 |p,[],_=>by simp
 |p,x::r,h=>by
  unfold risingS at h
  simp only [Bool.and_eq_true,Bool.not_eq_true'] at h
  have h1:DU p x:=by
   have:=h.1
   rw [ltCps_eq] at this
   exact this
  have h2:=VE x r h.2
  refine List.pairwise_cons.mpr ⟨fun z hz=>?_,h2⟩
  rcases List.mem_cons.mp hz with rfl | hz
  .exact h1
  .exact T8 h1 ((List.pairwise_cons.mp h2).1 z hz)
theorem uC {l:List Str} (p:r.Perm l) (h:sortedS r=true):r=DB l:=by
 have h':r.Pairwise DU:=by
  induction r using lc with
  |nil=>exact .nil
  |cons x r=>exact VE x r h
 exact V2 (p.trans (Qe l).1.symm) h' (Qe l).2
theorem Yl {rv:Value} (hS:StrsAre vs ss) (Og:vs.length<64)
  (hc:∀(A:Around) (Q:List Value->Shared->Prop) (E:Value->Shared->Prop),(∀h',(∀b o,s.heap.get? b=some o->h'.get? b=some o)->Q vs {s with heap:=h'})->wpAny (model AB w) A (collect rv) Q E s)
  (h:∀out a h' e,StrsAre out.toList (DB ss)->(∀b o,s.heap.get? b=some o->h'.get? b=some o)->s.heap.get? a=none->h'.get? a=some (Ba out e)->Q (.ref a) {s with heap:=h'}) :
  wpAny (model AB w) A (call (.builtin "sorted") [rv]) Q E s:=by
 refine Calls.call_function_entry kind_sorted plain_sorted entry_sorted (args_sorted1 _) ?_
 unfold Builtin.«sorted»
 refine ah (m:=checkCount "sorted" 1 1 _) (aq ?_)
 refine ah (hc _ _ _ fun AH E0=>?_)
 refine ah (wpAny_newList ?_ (by rw [sizeLine_eq];lia))
 have O7:(AH.push (seqObj "list" vs.toArray 0)).get? AH.objs.size=some (seqObj "list" vs.toArray 0):=au _ rfl
 show wpAny _ _ _ _ _ {s with heap:=AH.push (seqObj "list" vs.toArray 0)}
 refine ah (bh (wpAny_call_entry slot_list_sort ⟨_,O7,rfl⟩ entry_list_sort (list_sort_treeK strKind_oneLt O7 hS.keysOf (fun v1' v2' rest e=>keyKind_strs (by rw [<-e];exact hS)) Og fun st' hp hs=>⟨_,rfl,?_⟩) (args_list_sort _)))
 obtain ⟨ss',x1,x2,x3⟩:=sorted_out_str hS hp hs
 rw [uC x2 x3] at x1
 obtain ⟨e,he⟩:=sortedHeap_at (out:=(arrOf st').map (·.2)) O7
 have hn:s.heap.get? AH.objs.size=none:=by
  induction q:s.heap.get? AH.objs.size using oc with
  |none=>rfl
  |some o=>exact absurd (Heap.lt_size (E0 _ _ q)) (Nat.lt_irrefl _)
 refine aq ⟨_,rfl,h _ AH.objs.size _ e x1 (fun b o q=>?_) hn he⟩
 have Ey:b<AH.objs.size:=Heap.lt_size (E0 _ _ q)
 rw [sortedHeap_old (Nat.ne_of_lt Ey) (by rw [size_push'];exact Nat.lt_succ_of_lt Ey),Heap.get?_push_ne _ _ _ (Nat.ne_of_lt Ey)]
 exact E0 _ _ q
theorem kL {rv:Value} (H:AK AB w A AA Z φ ρ st s.heap) (hv:VR w.params φ ρ rv v) (N:As AB w A AA Z φ ρ st s (M6 v st) Q E):wpAny (model AB w) A (call (.builtin "sorted") [rv]) Q E s:=by
 obtain ⟨l,hi,N⟩:=Ar.items (f:=fun l=>match Mine.CU l with | some l=>if l.length<64 then Bb ((DB l).map .str) else AG | .none=>AG) N
 induction hs:Mine.CU l using oc with
 |none=>rw [hs] at N;exact N.Bd.elim
 |some ss=>
  rw [hs] at N
  obtain ⟨_,e⟩:=N.get
  obtain ⟨Og,e'⟩:=CE (show (if ss.length<64 then Bb ((DB ss).map .str) else AG) st=_ from e)
  obtain ⟨hl,rfl⟩:=Pr e'
  have M:=N.cast e
  clear N e
  obtain ⟨a,o,xs,n,T,rfl,hT,ho,hc,hd,vl,hn⟩:=hi.seq H hv
  obtain ⟨hS,hx⟩:=vl.Qg hs
  refine Yl hS (by rw [WD hS];exact Og) (fun A' Q' E' k=>wpAny_collect_seq a hT ho hc hd (fun h' kk=>k h' kk) (CS (by rw [<-az,vl.length];exact hn))) fun out b h' e ML k hb he=>?_
  have p:=H.Kl (a:=b) (o:=Ba out e) k hb he
  exact M.ok _ _ rfl _ _ ρ _ s.toks (.lst (DY ..) ((uh ML fun x EW=>hx x ((Qe ss).1.mem_iff.mp EW)).put (H.fresh hb)) hl) p
theorem jD:entryFor table "iter" = some Builtin.«iter»:=entryFor_of_tree (by kernel_rfl)
theorem jC (a:Value):argsOk "iter" ⟨[a],[]⟩:=by unfold argsOk;kernel_rfl
theorem Un:mroOf (.type "object")=pure [.type "object"]:=by rw [mroOf_type];kernel_rfl
theorem n6:typeLookup (.type "object") "__new__" = pure (some (.builtin "object.__new__")):=by rw [typeLookup_type,builtinLookup_eq_fast];kernel_rfl
theorem n5:Slot "object" "__init__" "object.__init__":=
 .of (owner:="object") (n:="__init__") (by rw [typeLookup_type,builtinLookup_eq_fast];kernel_rfl) (by decide +kernel) (by decide +kernel) (by decide +kernel)
  (by first | exact .inl (by decide +kernel) | exact .inr (by decide +kernel)) (by rw [isSubtype_type];kernel_rfl)
theorem Yn:TypeCalled "object" "object.__new__" "object.__init__":=
 ⟨by decide +kernel,by decide +kernel,⟨_,_,Un⟩,madeBy_type Un n6 (by decide +kernel),by decide +kernel,by rw [isSubtype_type];kernel_rfl,n5⟩
theorem n9:checkTypeCall "object" ⟨[],[]⟩=pure ():=by kernel_rfl
theorem n7:checkBuiltinCall "object.__new__" ⟨[.type "object"],[]⟩=pure ():=by kernel_rfl
theorem n8:Builtin.«object.__new__» ⟨[.type "object"],[]⟩=(do let o <- PySem.newObj (.type "object") .plain;ret o):=by kernel_rfl
theorem Ar.new {x:O} (N:As AB w A AA Z φ ρ st s (newObj x st) Q E) (H:AK AB w A AA Z φ ρ st s.heap) {a:Addr} (k:∀b o,s.heap.get? b=some o->h'.get? b=some o) (hn:s.heap.get? a=none) (ha:h'.get? a≠none)
  (hd:∀b,d=some b->s.heap.get? b=none/\h'.get? b≠none/\b≠a) (ho:OR AB w φ (ρ++[(a,d)]) h' (a,d) x) (tk:Nat):Q (.ref a) {s with heap:=h',toks:=tk}:=by
 have p:=H.Ll x k hn ha hd ho H.lo
 have e:(ρ++[(a,d)])[st.hp.length]? = some (a,d):=by rw [<-H.rel.len];simp
 exact N.ok _ _ rfl (.ref a) φ _ h' tk (.ref (p:=(a,d)) e) p
theorem Ar.new1 {x:O} {o:Obj} (N:As AB w A AA Z φ ρ st s (newObj x st) Q E) (H:AK AB w A AA Z φ ρ st s.heap) (hf:o.isFreed=false)
  (ho:∀h',h'.get? s.heap.objs.size=some o->OR AB w φ (ρ++[(s.heap.objs.size,none)]) h' (s.heap.objs.size,none) x) (tk:Nat):Q (.ref s.heap.objs.size) {s with heap:=s.heap.push o,toks:=tk}:=
 N.new H (d:=none) (fun b x e=>bf _ e) (EE _) (by rw [au _ hf];exact fun q=>by cases q) (fun b q=>by cases q) (ho _ (au _ hf)) tk
theorem Yi {l:Addr} (hl:s.heap.IsList l xs) (h:Q (.ref s.heap.objs.size) {s with heap:=s.heap.push {cls:=.type "list_iterator",data:=.fields #[.ref l,.int 0 0]}}) :
  wpAny (model AB w) A (call (.builtin "iter") [.ref l]) Q E s:=by
 refine call_function_entry (by decide +kernel) (by decide +kernel) jD (jC _) ?_
 unfold Builtin.«iter»
 refine ah (wpAny_of_eq (a:=[Value.ref l]) (by first | rfl | kernel_rfl!) ?_)
 show wpAny _ _ (pyIter (.ref l) >>= _) _ _ _
 refine ah (wpAny_pyIter_list hl ?_)
 exact aq ⟨_,rfl,h⟩
theorem Yj (h:Q (.ref s.heap.objs.size) {s with heap:=s.heap.push {cls:=.type "object"}}):wpAny (model AB w) A (call (.type "object") []) Q E s:=by
 refine callType_meets Yn n9 n7 PySem.F.entry_object_new PySem.F.entry_object_init (S:=fun A R s=>R (.ok (.ret (.ref s.heap.objs.size))) {s with heap:=s.heap.push {cls:=.type "object"}})
  (Q₁:=fun v s'=>s'.TypeIs v "object"/\Q v s')
  (.of_wp fun AB w A R s hs=>?_) ⟨⟨_,au _ rfl,rfl⟩,h⟩ fun obj Ay hq=>⟨hq.1,by unfold argsOk;kernel_rfl,fun A R s=>R (.ok (.ret .none)) s,?_,⟨rfl,hq.2⟩⟩
 .rw [n8]
  refine ah (wpAny_newObj_type ?_)
  exact aq ⟨_,rfl,hs⟩
 .intro AB w A R s hs
  rw [show Builtin.«object.__init__» ⟨[obj],[]⟩=pure (.done (.ret .none)) from oi_run obj]
  exact aq hs
theorem AV.one (h:AV P φ ρ vs [v]):∃rv,vs=[rv]/\VR P φ ρ rv v:=by
 obtain ⟨u,us,hu,t,rfl⟩:=h.Bx
 exact ⟨u,by rw [t.Co],hu⟩
theorem AV.two {x:V} (h:AV P φ ρ vs [v,x]):∃rv rx,vs=[rv,rx]/\VR P φ ρ rv v/\VR P φ ρ rx x:=by
 obtain ⟨u,us,hu,t,rfl⟩:=h.Bx
 obtain ⟨rx,rfl,hx⟩:=t.one
 exact ⟨u,rx,rfl,hu,hx⟩
theorem AV.zero (h:AV P φ ρ vs []):vs=[]:=h.Co
theorem Cz.Wb (x:Cz st v l):v = .tup l\/∀t,v≠.tup t:=by
 cases x with
 |lst=>exact .inr fun t z=>V.noConfusion z
 |tup=>exact .inl rfl
 |list hh=>exact .inr fun t z=>V.noConfusion z
theorem j6 {rv:Value} (H:AK AB w A AA Z φ ρ st s.heap) (hv:VR w.params φ ρ rv v) (N:As AB w A AA Z φ ρ st s (AD (items v) (fun l=>AF (V.int l.length)) st) Q E):wpAny (model AB w) A (call (.builtin "len") [rv]) Q E s:=by
 obtain ⟨l,hi,N⟩:=N.items
 have main:∀{xs:Array Value},AV w.params φ ρ xs.toList l->l.length<=1000->(xs.size:Int)<2 ^ 63/\Q (.int xs.size (s.toks+1)) {s with toks:=s.toks+1+1}:=fun {xs} vl hn=>by
  have e:xs.size=l.length:=by rw [<-az,vl.length]
  rw [e]
  exact ⟨LQ hn,N.pure H (.int _ _) _⟩
 rcases hi.Wb with rfl | nt
 .obtain ⟨a,xs,n,hf,hl,rfl⟩:=hv.E9
  obtain ⟨m1,m2⟩:=main hl hv.J9
  exact PySem.P.len_tuple (n:=_) (H.rel.fz _ _ hf) (Int.not_le.mpr m1) m2
 .obtain ⟨a,xs,n,rfl,ha,hl,hn⟩:=hi.list' nt H hv
  obtain ⟨m1,m2⟩:=main hl hn
  exact Calls.call_len_list (Eb ha) m1 m2
theorem j7 {rv:Value} (H:AK AB w A AA Z φ ρ st s.heap) (hv:VR w.params φ ρ rv v) (N:As AB w A AA Z φ ρ st s (lenV v st) Q E):wpAny (model AB w) A (call (.builtin "len") [rv]) Q E s:=by
 have k:(∃x,v = .str x)\/lenV v=AD (items v) (fun l=>AF (V.int l.length)):=by
  induction v using V.casesOn with
  |str x=>exact .inl ⟨x,rfl⟩
  |_=>exact .inr rfl
 rcases k with ⟨x,rfl⟩ | e
 .have:=LQ hv.I6
  obtain ⟨t,rfl⟩:=hv.Bw
  exact PyProof.Rows.len_str (Int.not_le.mpr this) (N.pure (v:=V.int _) H (.int _ _) _)
 .exact j6 H hv (e ▸ N)
theorem j3 {rv:Value} (H:AK AB w A AA Z φ ρ st s.heap) (hv:VR w.params φ ρ rv v) (N:As AB w A AA Z φ ρ st s (MP v st) Q E):wpAny (model AB w) A (call (.builtin "iter") [rv]) Q E s:=by
 obtain ⟨r,e⟩:=N.get
 have k:∃i l,v = .ref i/\st.hp[i]? = some (.list l):=by
  induction v using V.casesOn with
  |ref i=>
   obtain ⟨ob,ho,e⟩:=GB e
   induction ob using O.casesOn with
   |list l=>exact ⟨i,l,rfl,ho⟩
   |_=>exact nn e
  |_=>exact nn e
 obtain ⟨i,l,rfl,ho⟩:=k
 obtain ⟨⟨p1,p2⟩,hp,rfl⟩:=hv.C8
 obtain ⟨z,hn,xs,n,e,hl⟩:=H.rel.ob _ _ _ ho hp
 obtain rfl:p2=none:=z
 refine Yi (Eb e) (Ar.new1 (x:=.iter i 0) (N.cast (Kn ho)) H rfl (fun h' e'=>⟨rfl,p1,?_,e'⟩) s.toks)
 rw [bw (List.getElem?_eq_some_iff.mp hp).1];exact hp
theorem iw {t:V} (h:K5 v t st=some o):∃x,v = .str x/\t = .ty "str"/\o = .ok (.bool true) st:=by
 induction v using V.casesOn with
 |str x=>
  induction t using V.casesOn with
  |ty n=>
   obtain ⟨rfl,h'⟩:=CE (show (if n = "str" then AF (V.bool true) else AG) st=some o from h)
   exact ⟨x,rfl,rfl,B6 h'⟩
  |_=>exact nn h
 |_=>exact nn h
theorem YR {id:String} (h:builtin id as st=some o):(∃v,as=[v])\/∃v t,as=[v,t]/\id = "isinstance"/\K5 v t st=some o:=by
 induction as using lc with
 |nil=>exact nn h
 |cons v r=>induction r using lc with
  |nil=>exact .inl ⟨v,rfl⟩
  |cons t r=>induction r using lc with
   |nil=>obtain ⟨c,h⟩:=CE h;exact .inr ⟨v,t,rfl,c,h⟩
   |cons _ _=>exact nn h
theorem jo {id:String} {rv:Value} (H:AK AB w A AA Z φ ρ st s.heap) (hv:VR w.params φ ρ rv v) (N:As AB w A AA Z φ ρ st s (JG id v st) Q E):wpAny (model AB w) A (call (.builtin id) [rv]) Q E s:=by
 by_cases q:id = "len"
 .subst q;exact j7 H hv (N.cast (congrFun (ak rfl) st))
 replace N:=N.cast (congrFun (aj q) st);clear q
 by_cases q:id = "abs"
 .subst q
  replace N:=N.cast (congrFun (ak rfl) st)
  have k:∃i,v = .int i:=by
   obtain ⟨r,e⟩:=N.get
   induction v using V.casesOn with
   |int i=>exact ⟨i,rfl⟩
   |_=>exact nn e
  obtain ⟨i,rfl⟩:=k
  obtain ⟨t,rfl⟩:=hv.B3
  refine call_abs_int fun u tk=>?_
  have e:(if i<0 then -i else i)=(i.natAbs:Int):=by split <;> omega
  rw [e]
  exact N.pure (v:=V.int _) H (.int _ u) tk
 replace N:=N.cast (congrFun (aj q) st);clear q
 by_cases q:id = "max"
 .subst q;exact j9 H hv (N.cast (congrFun (ak rfl) st))
 replace N:=N.cast (congrFun (aj q) st);clear q
 by_cases q:id = "min"
 .subst q;exact kE H hv (N.cast (congrFun (ak rfl) st))
 replace N:=N.cast (congrFun (aj q) st);clear q
 by_cases q:id = "sorted"
 .subst q;exact kL H hv (N.cast (congrFun (ak rfl) st))
 replace N:=N.cast (congrFun (aj q) st);clear q
 by_cases q:id = "iter"
 .subst q;exact j3 H hv (N.cast (congrFun (ak rfl) st))
 exact (N.ne (congrFun (aj q) st)).elim
theorem jm {id:String} (H:AK AB w A AA Z φ ρ st s.heap) (vl:AV w.params φ ρ vs as) (N:As AB w A AA Z φ ρ st s (builtin id as st) Q E):wpAny (model AB w) A (call (.builtin id) vs) Q E s:=by
 obtain ⟨o,e⟩:=N.get
 rcases YR e with ⟨v,rfl⟩ | ⟨v,t,rfl,rfl,e'⟩
 .obtain ⟨rv,rfl,hv⟩:=vl.one
  exact jo H hv N
 .obtain ⟨x,rfl,rfl,rfl⟩:=iw e'
  obtain ⟨rv,rt,rfl,vx,vt⟩:=vl.two
  obtain ⟨t,rfl⟩:=vx.Bw
  rw [vt.I9]
  exact IsiPair.str_str ((N.cast e).pure H (.bool true) _)
theorem kI {rv:Value} (H:AK AB w A AA Z φ ρ st s.heap) (hv:VR w.params φ ρ rv v) (N:As AB w A AA Z φ ρ st s (Jp v st) Q E):wpAny (model AB w) A (call (.type "range") [rv]) Q E s:=by
 obtain ⟨r,e⟩:=N.get
 have k:∃k:Nat,v = .int k/\k<=1000/\Jp v st=AF (.rng k) st:=by
  induction v using V.casesOn with
  |int i=>
   obtain ⟨c,e'⟩:=CE (show (if 0<=i/\i<=1000 then AF (V.rng i.toNat) else AG) st=some r from e)
   exact ⟨i.toNat,by rw [Int.toNat_of_nonneg c.1],Int.toNat_le.mpr c.2,congrFun (ak c) st⟩
  |_=>exact nn e
 obtain ⟨k,rfl,hk,e'⟩:=k
 obtain ⟨t,rfl⟩:=hv.B3
 exact call_range_1 ((N.cast e').L7 H rfl (.rng (DY ..) hk) _)
theorem kP {rv:Value} (H:AK AB w A AA Z φ ρ st s.heap) (hv:VR w.params φ ρ rv v) (N:As AB w A AA Z φ ρ st s (AD (items v) D7 st) Q E):wpAny (model AB w) A (call (.type "tuple") [rv]) Q E s:=by
 obtain ⟨l,hi,N⟩:=N.items
 rcases hi.Wb with rfl | nt
 .obtain ⟨_,e⟩:=N.get
  obtain ⟨EV,rfl⟩:=UU e
  obtain ⟨a,xs,n,hf,hl,rfl⟩:=hv.E9
  exact call_tuple_same (J8 (H.rel.fz _ _ hf)) (N.ok _ _ e _ φ ρ s.heap s.toks hv (.refl H.rel H.er H.amb))
 .obtain ⟨a,xs,n,rfl,ha,hl,hn⟩:=hi.list' nt H hv
  refine call_tuple_list (Eb ha) (fun h' k=>?_) (CS (by rw [<-az,hl.length];exact hn))
  have p:=H.grow k
  have:=(Uc (s:={s with heap:=h'}) (H.after p) (hl.mono p.ext.le p.ext.pf) (N.after p s.toks)).2 0 s.toks
  rw [Array.toArray_toList] at this
  exact this
theorem wk {n:String} (h:JA n as st=some o):(as=[]/\n = "object")\/(as=[]/\n = "set")\/(∃v,as=[v]/\n = "range")\/∃v,as=[v]/\n = "tuple":=by
 induction as using lc with
 |nil=>
  by_cases q:n = "object"
  .exact .inl ⟨rfl,q⟩
  .exact .inr (.inl ⟨rfl,(CE ((congrFun (aj q) st).symm.trans h)).1⟩)
 |cons v r=>induction r using lc with
  |nil=>
   by_cases q:n = "range"
   .exact .inr (.inr (.inl ⟨v,rfl,q⟩))
   .exact .inr (.inr (.inr ⟨v,rfl,(CE ((congrFun (aj q) st).symm.trans h)).1⟩))
  |cons _ _=>exact nn h
theorem kQ {n:String} (H:AK AB w A AA Z φ ρ st s.heap) (vl:AV w.params φ ρ vs as) (N:As AB w A AA Z φ ρ st s (JA n as st) Q E):wpAny (model AB w) A (call (.type n) vs) Q E s:=by
 obtain ⟨o,e⟩:=N.get
 rcases wk e with ⟨rfl,rfl⟩ | ⟨rfl,rfl⟩ | ⟨v,rfl,rfl⟩ | ⟨v,rfl,rfl⟩
 .rw [vl.zero]
  exact Yj (Ar.new1 (x:=.obj) N H rfl (fun h' e=>⟨rfl,e⟩) s.toks)
 .rw [vl.zero]
  refine call_set_0 fun led=>Ar.new1 (x:=.set []) N H rfl (fun h' e=>⟨rfl,Nat.zero_le _,?_⟩) s.toks
  exact (setObjOf_fresh led).setOf e (by decide)
 .obtain ⟨rv,rfl,hv⟩:=vl.one
  exact kI H hv N
 .obtain ⟨rv,rfl,hv⟩:=vl.one
  exact kP H hv N
theorem UX {nm:Str} {k:String} (h:Cc nm=k) (n:k≠""):nm=Str.ofString k/\k∈MR:=by
 unfold Cc at h
 induction q:(MR.find? fun (k:String)=>decide (nm=Str.ofString k)) using oc with
 |none=>rw [q] at h;exact absurd h.symm n
 |some x=>
  rw [q] at h
  have h:x=k:=h
  subst h
  have q1:=List.find?_some q
  exact ⟨of_decide_eq_true q1,List.mem_of_find?_eq_some q⟩
structure RC (nm:Str) (T id:String):Prop where
 plain:PlainAttrs T
 slot:Slot T nm id
 ty:typeOf (.builtin id)=pure (.type "method_descriptor")
theorem Ar.Ao (N:As AB w A AA Z φ ρ st s (AD (CO i l') (fun _=>AF v) st) Q E) :
  l'.length<=1000/\st.lo<=i/\∀h' rv tk,VR w.params φ ρ rv v->Al AB w A AA Z φ ρ st s.heap φ ρ {st with hp:=st.hp.set i (.list l')} h'->Q rv {s with heap:=h',toks:=tk}:=by
 unfold CO at N
 by_cases hl:l'.length<=1000
 .rw [ak hl] at N
  by_cases Bc:st.lo<=i
  .have e:BJ i (.list l') st=some (.ok () {st with hp:=st.hp.set i (.list l')}):=ak Bc
   exact ⟨hl,Bc,fun h' rv tk hv p=>N.ok _ _ (AJ e) _ _ _ h' tk hv p⟩
  .exact (N.ne (BQ (aj Bc))).elim
 .rw [aj hl] at N;exact (N.ne rfl).elim
theorem Ar.Fi {o:O} (N:As AB w A AA Z φ ρ st s (AD (BJ i o) (fun _=>AF v) st) Q E) :
  st.lo<=i/\∀h' rv tk,VR w.params φ ρ rv v->Al AB w A AA Z φ ρ st s.heap φ ρ {st with hp:=st.hp.set i o} h'->Q rv {s with heap:=h',toks:=tk}:=by
 by_cases Bc:st.lo<=i
 .have e:BJ i o st=some (.ok () {st with hp:=st.hp.set i o}):=ak Bc
  exact ⟨Bc,fun h' rv tk hv p=>N.ok _ _ (AJ e) _ _ _ h' tk hv p⟩
 .exact (N.ne (BQ (aj Bc))).elim
theorem LX (H:AK AB w A AA Z φ ρ st s.heap) {a:Addr} (ho:st.hp[i]? = some (.list l)) (hp:ρ[i]? = some (a,none)) (e:s.heap.get? a=some (Ba xs n)) {f:Array Value->Array Value}
  (EV:AV w.params φ ρ (f xs).toList l') (hn:l'.length<=1000) (Bc:st.lo<=i):Al AB w A AA Z φ ρ st s.heap φ ρ {st with hp:=st.hp.set i (.list l')} (s.heap.update a (Obj.mapSeq f)):=by
 have hu:(s.heap.update a (Obj.mapSeq f)).get? a=some (Ba (f xs) (if (f xs).size==xs.size then n else n+1)):=bz _ e rfl
 exact H.change hp _ Bc (fun b o q h1 _=>(Heap.get?_update_ne _ _ _ _ h1).trans q) (A8 hu) (fun d q=>by exact nn q) ⟨rfl,hn,_,_,hu,EV⟩
theorem AV.last (h:AV P φ ρ vs l) {x:V} (e:l.getLast? = some x):∃v,vs[vs.length-1]? = some v/\VR P φ ρ v x/\AV P φ ρ (vs.take (vs.length-1)) l.dropLast:=by
 rw [List.getLast?_eq_getElem?] at e
 obtain ⟨v,h1,h2⟩:=h.get e
 rw [h.length]
 refine ⟨v,h1,h2,?_⟩
 rw [List.dropLast_eq_take]
 exact h.take _
theorem Z4:(xs.eraseIdxIfInBounds (xs.size-1)).toList=xs.toList.take (xs.toList.length-1):=by
 obtain ⟨l⟩:=xs
 simp only [List.eraseIdxIfInBounds_toArray,List.size_toArray]
 rw [<-List.dropLast_eq_take,List.eraseIdx_eq_take_drop_succ,List.dropLast_eq_take]
 by_cases q:l.length=0
 .have:l=[]:=List.length_eq_zero_iff.mp q
  subst this;rfl
 .rw [List.drop_of_length_le (by lia),List.append_nil]
theorem w5 {es:List DictEntry} {l:List (Str × V)} (h:Az w.params φ ρ es l) (k:Str):VR w.params φ ρ ((valueAt (D6 es l) k).getD .none) ((AN k l).getD .none):=by
 induction l generalizing es with
 |nil=>rw [h.Co];exact .none
 |cons x r ih=>
  obtain ⟨rv,t,us,_,hv,t,rfl⟩:=h.Bx
  have e:∀t,valueAt (D6 (⟨PyData.keyHash w.params x.1,.str x.1 t,rv⟩::us) (x::r)) k=if x.1=k then some rv else valueAt (D6 us r) k:=fun t=>by
   show ((((x.1,rv)::D6 us r).find? fun kv=>decide (kv.1=k)).map (·.2))=_
   rw [List.find?_cons]
   by_cases q:x.1=k
   .rw [ak q,decide_eq_true q];rfl
   .rw [aj q,decide_eq_false q];rfl
  by_cases q:x.1=k
  .rw [e,ak q,show AN k (x::r)=some x.2 from ak (beq_iff_eq.mpr q)]
   exact hv
  .rw [e,aj q,show AN k (x::r)=AN k r from aj (fun z=>q (eq_of_beq z))]
   exact ih t
theorem UJ {nm:String} (h:Gy nm=some q):(nm = "append"/\q=("list","list.append"))\/(nm = "extend"/\q=("list","list.extend"))\/(nm = "clear"/\q=("list","list.clear"))\/(nm = "pop"/\q=("list","list.pop")):=by
 unfold Gy at h
 by_cases q1:nm = "append"
 .rw [ak q1] at h;exact .inl ⟨q1,(aa h).symm⟩
 rw [aj q1] at h
 by_cases q2:nm = "extend"
 .rw [ak q2] at h;exact .inr (.inl ⟨q2,(aa h).symm⟩)
 rw [aj q2] at h
 by_cases q3:nm = "clear"
 .rw [ak q3] at h;exact .inr (.inr (.inl ⟨q3,(aa h).symm⟩))
 rw [aj q3] at h
 obtain ⟨c,e⟩:=Cu h
 exact .inr (.inr (.inr ⟨c,(aa e).symm⟩))
theorem R6 {nm:String} (h:IT nm=some q):(nm = "get"/\q=("dict","dict.get"))\/(nm = "values"/\q=("dict","dict.values")):=by
 unfold IT at h
 by_cases q1:nm = "get"
 .rw [ak q1] at h;exact .inl ⟨q1,(aa h).symm⟩
 rw [aj q1] at h
 obtain ⟨c,e⟩:=Cu h
 exact .inr ⟨c,(aa e).symm⟩
theorem mS {o:O} {nm T id:String} (h:CF o nm=some (T,id)):RC (Str.ofString nm) T id:=by
 induction o using O.casesOn with
 |list l=>
  rcases UJ h with ⟨rfl,e⟩ | ⟨rfl,e⟩ | ⟨rfl,e⟩ | ⟨rfl,e⟩ <;> cases e
  .exact ⟨PySem.F.plainAttrs_list,PySem.F.slot_list_append,PySem.F.type_list_append⟩
  .exact ⟨PySem.F.plainAttrs_list,PySem.F.slot_list_extend,PySem.F.type_list_extend⟩
  .exact ⟨PySem.F.plainAttrs_list,PySem.F.slot_list_clear,PySem.F.type_list_clear⟩
  .exact ⟨PySem.F.plainAttrs_list,PySem.F.slot_list_pop,PySem.F.type_list_pop⟩
 |dict l cl=>
  rcases R6 h with ⟨rfl,e⟩ | ⟨rfl,e⟩ <;> cases e
  .exact ⟨PySem.F.plainAttrs_dict,PySem.F.slot_dict_get,PySem.F.type_dict_get⟩
  .exact ⟨PySem.F.plainAttrs_dict,PySem.F.slot_dict_values,PySem.F.type_dict_values⟩
 |set l=>
  obtain ⟨rfl,e⟩:=Cu h
  cases e
  exact ⟨PySem.F.plainAttrs_set,PySem.F.slot_set_add,PySem.F.type_set_add⟩
 |_=>exact nn h
theorem mR {o:O} {nm T id:String} (h:CF o nm=some (T,id)) (ho:OR AB w φ ρ AH p o):∃ob,AH.get? p.1=some ob/\ob.cls = .type T/\ob.dict=none:=by
 induction o using O.casesOn with
 |list l=>
  obtain ⟨_,_,xs,n,e,_⟩:=ho
  rcases UJ h with ⟨_,q⟩ | ⟨_,q⟩ | ⟨_,q⟩ | ⟨_,q⟩ <;> cases q <;> exact ⟨_,e,rfl,rfl⟩
 |dict l cl=>
  obtain ⟨_,_,_,xs,n,e,_,_⟩:=ho
  rcases R6 h with ⟨_,q⟩ | ⟨_,q⟩ <;> cases q <;> exact ⟨_,e,rfl,rfl⟩
 |set l=>
  obtain ⟨_,_,o,es,ep,t,e1,⟨e2,e3,_⟩,_⟩:=ho
  obtain ⟨_,e⟩:=Cu h
  cases e
  exact ⟨o,e1,e2,e3⟩
 |_=>exact nn h
theorem jj {rv:Value} (H:AK AB w A AA Z φ ρ st s.heap) (ho:st.hp[i]? = some (.list l)) (hp:ρ[i]? = some p) (hv:VR w.params φ ρ rv v) (N:As AB w A AA Z φ ρ st s (AD (CO i (l++[v])) (fun _=>AF .none) st) Q E) :
  wpAny (model AB w) A (call (.builtin "list.append") [.ref p.1,rv]) Q E s:=by
 obtain ⟨z,hn,xs,n,e,hl⟩:=H.rel.ob _ _ _ ho hp
 obtain ⟨a,d⟩:=p
 obtain rfl:d=none:=z
 have CQ:xs.size=l.length:=by rw [<-az,hl.length]
 refine call_meets PySem.F.slot_list_append ⟨_,e,rfl⟩ PySem.F.entry_list_append (PySem.F.args_list_append_2 _ _) (list_append a xs n rv (CS (CQ ▸ hn))) ⟨e,?_⟩
 exact N.Ao.2.2 _ _ _ .none (LX H ho hp e (by rw [Array.toList_push];exact hl.append (.cons hv .nil)) N.Ao.1 N.Ao.2.1)
theorem jv {rv:Value} (H:AK AB w A AA Z φ ρ st s.heap) (ho:st.hp[i]? = some (.list l)) (hp:ρ[i]? = some p) (hv:VR w.params φ ρ rv v) (N:As AB w A AA Z φ ρ st s (AD (listItems v) (fun r=>AD (CO i (l++r)) fun _=>AF .none) st) Q E) :
  wpAny (model AB w) A (call (.builtin "list.extend") [.ref p.1,rv]) Q E s:=by
 obtain ⟨r,ir,nr,N⟩:=N.listItems
 obtain ⟨z,hn,xs,n,e,hl⟩:=H.rel.ob _ _ _ ho hp
 obtain ⟨a,d⟩:=p
 obtain rfl:d=none:=z
 obtain ⟨b,ys,m,rfl,e2,v2,n2⟩:=ir.list' nr H hv
 have CQ:xs.size=l.length:=by rw [<-az,hl.length]
 have hsz2:ys.size=r.length:=by rw [<-az,v2.length]
 have hb:(100000:Nat)<=sizeLine:=by rw [sizeLine_eq];decide
 refine call_meets PySem.F.slot_list_extend ⟨_,e,rfl⟩ PySem.F.entry_list_extend (PySem.F.args_list_extend_2 _ _) (AutoSeq1.list_extend_list_list_0 a xs n b ys m (by simp [Builtin.List.listTooLong];lia) (CS (by lia)) (by lia)) ⟨e,e2,?_⟩
 exact N.Ao.2.2 _ _ _ .none (LX H ho hp e (by rw [Array.toList_append];exact hl.append v2) N.Ao.1 N.Ao.2.1)
theorem jr (H:AK AB w A AA Z φ ρ st s.heap) (ho:st.hp[i]? = some (.list l)) (hp:ρ[i]? = some p) (N:As AB w A AA Z φ ρ st s (AD (CO i []) (fun _=>AF .none) st) Q E) :
  wpAny (model AB w) A (call (.builtin "list.clear") [.ref p.1]) Q E s:=by
 obtain ⟨z,hn,xs,n,e,hl⟩:=H.rel.ob _ _ _ ho hp
 obtain ⟨a,d⟩:=p
 obtain rfl:d=none:=z
 have CQ:xs.size=l.length:=by rw [<-az,hl.length]
 refine call_meets PySem.F.slot_list_clear ⟨_,e,rfl⟩ PySem.F.entry_list_clear (PySem.F.args_list_clear_1 _) (AutoSeq1.list_clear_list_0 a xs n (CS (CQ ▸ hn))) ⟨e,?_⟩
 exact N.Ao.2.2 _ _ _ .none (LX (f:=fun _=>#[]) H ho hp e .nil N.Ao.1 N.Ao.2.1)
theorem kH (H:AK AB w A AA Z φ ρ st s.heap) (ho:st.hp[i]? = some (.list l)) (hp:ρ[i]? = some p) (N:As AB w A AA Z φ ρ st s (Ir i l st) Q E) :
  wpAny (model AB w) A (call (.builtin "list.pop") [.ref p.1]) Q E s:=by
 obtain ⟨z,hn,xs,n,e,hl⟩:=H.rel.ob _ _ _ ho hp
 obtain ⟨a,d⟩:=p
 obtain rfl:d=none:=z
 have CQ:xs.size=l.length:=by rw [<-az,hl.length]
 unfold Ir at N
 induction q:l.getLast? using oc with
 |none=>rw [q] at N;exact N.Bd.elim
 |some v=>
  rw [q] at N
  obtain ⟨rv,h1,h2,h3⟩:=hl.last q
  refine call_meets PySem.F.slot_list_pop ⟨_,e,rfl⟩ PySem.F.entry_list_pop (PySem.F.args_list_pop_1 _) (MeetsSeq.list_pop_last a xs n rv (by rw [Array.getElem?_toList] at h1;rw [az] at h1;exact h1) (CS (CQ ▸ hn))) ⟨e,?_⟩
  exact N.Ao.2.2 _ _ _ h2 (LX H ho hp e (by rw [Z4];exact h3) N.Ao.1 N.Ao.2.1)
theorem jx {l:Loc} {rv:Value} (H:AK AB w A AA Z φ ρ st s.heap) (ho:st.hp[i]? = some (.dict l cl)) (hp:ρ[i]? = some p) (hv:VR w.params φ ρ rv (.str k)) (N:As AB w A AA Z φ ρ st s (AF ((AN k l).getD .none) st) Q E) :
  wpAny (model AB w) A (call (.builtin "dict.get") [.ref p.1,rv]) Q E s:=by
 obtain ⟨t,rfl⟩:=hv.Bw
 obtain ⟨z,hn,nd,es,n,e,hc,hl⟩:=H.rel.ob _ _ _ ho hp
 have D:=(dictAt (AB:=AB) e hl nd).dictOf.mapOf
 exact call_meetsIn PySem.F.slot_dict_get ⟨_,e,rfl⟩ PySem.F.entry_dict_get (PySem.F.args_dict_get_2 _ _) (meets_dict_get (PySem.strKind AB w) p.1 (k:=k) (by rw [Hp];simp) (H.noSys (DV hp (.inl rfl)))) ⟨_,D,N.pure (s:=s) H (w5 hl k) _⟩
theorem kR {l:Loc} (H:AK AB w A AA Z φ ρ st s.heap) (ho:st.hp[i]? = some (.dict l cl)) (hp:ρ[i]? = some p) (N:As AB w A AA Z φ ρ st s (AF (.vals i) st) Q E) :
  wpAny (model AB w) A (call (.builtin "dict.values") [.ref p.1]) Q E s:=by
 obtain ⟨z,hn,nd,es,n,e,hc,hl⟩:=H.rel.ob _ _ _ ho hp
 obtain ⟨a,d⟩:=p
 obtain rfl:d=none:=z
 exact call_meetsIn PySem.F.slot_dict_values ⟨_,e,rfl⟩ PySem.F.entry_dict_values (PySem.F.args_dict_values_1 _) (meets_dict_values (PySem.strKind AB w) a (H.noSys (DV hp (.inl rfl)))) ⟨⟨_,(dictAt (AB:=AB) e hl nd).dictOf⟩,N.L7 H rfl (.vals (DY ..) hp) _⟩
theorem Xj {l:List Str}:(fun k'=>l.contains k' || decide (k'=k))=fun k'=>(if l.contains k then l else l++[k]).contains k':=by
 funext k'
 by_cases q:l.contains k=true
 .rw [ak q]
  by_cases q2:k'=k
  .rw [q2,q];rfl
  .simp [q2]
 .rw [aj q]
  simp [List.contains_append]
theorem RO {l:List Str}:(if l.contains k then l.length else l.length+1)=(if l.contains k then l else l++[k]).length:=by split <;> simp
theorem ji {l:List Str} {rv:Value} (hlen:l.length<1000) (H:AK AB w A AA Z φ ρ st s.heap) (ho:st.hp[i]? = some (.set l)) (hp:ρ[i]? = some p) (hv:VR w.params φ ρ rv (.str k))
  (N:As AB w A AA Z φ ρ st s (AD (BJ i (.set (if l.contains k then l else l++[k]))) (fun _=>AF .none) st) Q E):wpAny (model AB w) A (call (.builtin "set.add") [.ref p.1,rv]) Q E s:=by
 obtain ⟨t,rfl⟩:=hv.Bw
 obtain ⟨z,hn,hS⟩:=H.rel.ob _ _ _ ho hp
 obtain ⟨a,d⟩:=p
 obtain rfl:d=none:=z
 refine call_set_add (k:=k) (by rw [Hp];simp) rfl hS (Nat.lt_of_le_of_lt hlen (by decide)) fun h' PD Oi=>?_
 have O1:(if l.contains k then l else l++[k]).length<=1000:=by rw [<-RO];split <;> lia
 rw [Xj,RO] at Oi
 have O2:h'.get? a≠none:=by obtain ⟨o,_,_,_,q,_⟩:=Oi;exact A8 q
 exact N.Fi.2 h' _ _ .none (H.change hp _ N.Fi.1 (fun b o q h1 _=>(PD.2 b h1).trans q) O2 (fun d q=>by exact nn q) ⟨rfl,O1,Oi⟩)
theorem Pu:CF (.list l) "append" = some ("list","list.append"):=by unfold CF Gy;rw [ak rfl]
theorem mH:CF (.list l) "extend" = some ("list","list.extend"):=by unfold CF Gy;rw [aj (by decide),ak rfl]
theorem mG:CF (.list l) "clear" = some ("list","list.clear"):=by unfold CF Gy;rw [aj (by decide),aj (by decide),ak rfl]
theorem mK:CF (.list l) "pop" = some ("list","list.pop"):=by unfold CF Gy;rw [aj (by decide),aj (by decide),aj (by decide),ak rfl]
theorem mJ {l cl}:CF (.dict l cl) "get" = some ("dict","dict.get"):=by unfold CF IT;rw [ak rfl]
theorem mO {l cl}:CF (.dict l cl) "values" = some ("dict","dict.values"):=by unfold CF IT;rw [aj (by decide),ak rfl]
theorem mF {l}:CF (.set l) "add" = some ("set","set.add"):=by unfold CF setKind;rw [ak rfl]
theorem Pn {v}:Dm i l "append" [v]=AD (CO i (l++[v])) fun _=>AF .none:=by unfold Dm;dsimp only;rw [ak rfl]
theorem k8 {v}:Dm i l "extend" [v]=AD (listItems v) fun r=>AD (CO i (l++r)) fun _=>AF .none:=by unfold Dm;dsimp only;rw [aj (by decide),ak rfl]
theorem k7:Dm i l "clear" []=AD (CO i []) fun _=>AF .none:=by unfold Dm;dsimp only;rw [ak rfl]
theorem k9:Dm i l "pop" []=Ir i l:=by unfold Dm;dsimp only;rw [aj (by decide),ak rfl]
theorem Zk {l:Loc} {k}:F7 i l "get" [.str k]=AF ((AN k l).getD .none):=by unfold F7;dsimp only;rw [ak rfl]
theorem Zl {l:Loc}:F7 i l "values" []=AF (.vals i):=by unfold F7;dsimp only;rw [ak rfl]
theorem rA {l:List Str} {k} (h:l.length<1000):GR i l "add" [.str k]=AD (BJ i (.set (if l.contains k then l else l++[k]))) fun _=>AF .none:=by unfold GR;dsimp only;rw [ak (show "add" = "add"/\l.length<1000 from ⟨rfl,h⟩)]
theorem Pk {nm:String} (h:Dm i l nm as st=some o):(∃v,as=[v]/\nm = "append")\/(∃v,as=[v]/\nm = "extend")\/(as=[]/\nm = "clear")\/(as=[]/\nm = "pop"):=by
 induction as using lc with
 |nil=>
  by_cases q:nm = "clear"
  .exact .inr (.inr (.inl ⟨rfl,q⟩))
  .exact .inr (.inr (.inr ⟨rfl,(CE ((congrFun (aj q) st).symm.trans h)).1⟩))
 |cons v r=>induction r using lc with
  |nil=>
   by_cases q:nm = "append"
   .exact .inl ⟨v,rfl,q⟩
   .exact .inr (.inl ⟨v,rfl,(CE ((congrFun (aj q) st).symm.trans h)).1⟩)
  |cons _ _=>exact nn h
theorem OD {l:Loc} {nm:String} (h:F7 i l nm as st=some o):(∃k,as=[.str k]/\nm = "get")\/(as=[]/\nm = "values"):=by
 induction as using lc with
 |nil=>exact .inr ⟨rfl,(CE h).1⟩
 |cons v r=>induction r using lc with
  |nil=>
   induction v using V.casesOn with
   |str k=>exact .inl ⟨k,rfl,(CE h).1⟩
   |_=>exact nn h
  |cons _ _=>exact nn h
theorem QT {l:List Str} {nm:String} (h:GR i l nm as st=some o):∃k,as=[.str k]/\nm = "add"/\l.length<1000:=by
 induction as using lc with
 |nil=>exact nn h
 |cons v r=>induction r using lc with
  |nil=>
   induction v using V.casesOn with
   |str k=>exact ⟨k,rfl,(CE h).1.1,(CE h).1.2⟩
   |_=>exact nn h
  |cons _ _=>exact nn h
theorem kD {nm:String} {o:O} (H:AK AB w A AA Z φ ρ st s.heap) (ho:st.hp[i]? = some o) (hp:ρ[i]? = some p) (hk:nm∈MR) (vl:AV w.params φ ρ vs as)
  (N:As AB w A AA Z φ ρ st s (method i nm as st) Q E) :
  ∃T id,CF o nm=some (T,id)/\wpAny (model AB w) A (call (.builtin id) (.ref p.1::vs)) Q E s:=by
 have N:As AB w A AA Z φ ρ st s (AD (A4 i) (fun o=>match o with | .list l=>Dm i l nm as | .dict l _=>F7 i l nm as | .set l=>GR i l nm as | .iter l k=>Hl i l k nm as | _=>AG) st) Q E:=N
 rw [Kn ho] at N
 induction o using O.casesOn with
 |list l=>
  have N:As AB w A AA Z φ ρ st s (Dm i l nm as st) Q E:=N
  obtain ⟨_,e⟩:=N.get
  rcases Pk e with ⟨v,rfl,rfl⟩ | ⟨v,rfl,rfl⟩ | ⟨rfl,rfl⟩ | ⟨rfl,rfl⟩
  .obtain ⟨rv,rfl,hv⟩:=vl.one
   exact ⟨"list","list.append",Pu,jj H ho hp hv (Pn ▸ N)⟩
  .obtain ⟨rv,rfl,hv⟩:=vl.one
   exact ⟨"list","list.extend",mH,jv H ho hp hv (k8 ▸ N)⟩
  .rw [vl.zero]
   exact ⟨"list","list.clear",mG,jr H ho hp (k7 ▸ N)⟩
  .rw [vl.zero]
   exact ⟨"list","list.pop",mK,kH H ho hp (k9 ▸ N)⟩
 |dict l cl=>
  have N:As AB w A AA Z φ ρ st s (F7 i l nm as st) Q E:=N
  obtain ⟨_,e⟩:=N.get
  rcases OD e with ⟨k,rfl,rfl⟩ | ⟨rfl,rfl⟩
  .obtain ⟨rv,rfl,hv⟩:=vl.one
   exact ⟨"dict","dict.get",mJ,jx H ho hp hv (Zk ▸ N)⟩
  .rw [vl.zero]
   exact ⟨"dict","dict.values",mO,kR H ho hp (Zl ▸ N)⟩
 |set l=>
  have N:As AB w A AA Z φ ρ st s (GR i l nm as st) Q E:=N
  obtain ⟨_,e⟩:=N.get
  obtain ⟨k,rfl,rfl,hlen⟩:=QT e
  obtain ⟨rv,rfl,hv⟩:=vl.one
  exact ⟨"set","set.add",mF,ji hlen H ho hp hv (rA hlen ▸ N)⟩
 |iter l k=>
  obtain ⟨_,e⟩:=N.get
  have q:nm = "__next__":=by
   induction as using lc with
   |nil=>exact (CE (show (if nm = "__next__" then Fd i l k else AG) st=_ from e)).1
   |cons _ _=>exact nn e
  exact absurd hk (by rw [q];decide)
 |_=>exact N.Bd.elim
theorem kj:isSubtype (.type "list") (.type "module")=pure false:=by rw [isSubtype_type];kernel_rfl
theorem YK {b l:Addr} {v:Value} (hb:s.heap.get? b=some {cls:=.type "builtin_function_or_method",data:=.fields #[.builtin "list.append",.ref l]})
  (e:s.heap.get? l=some (Ba xs n)) (hz:xs.size<=sizeLine) (h:Q .none {s with heap:=s.heap.update l (Obj.mapSeq fun x=>x.push v)}):wpAny (model AB w) A (call (.ref b) [v]) Q E s:=by
 obtain ⟨hp,g,d,tk,os⟩:=s
 dsimp only at hb e
 have e:hp.get? l=some {cls:=.type "list",dict:=none,data:=.seq xs n,slots:=#[]}:=e
 have f1:=kj
 refine wpAny_call (codeAny_of_tree ?_)
 show wpAny _ _ (callAny (.ref b) _) _ _ _
 have hT:(⟨hp,g,d,tk,os⟩:Shared).TypeIs (.ref l) "list":=⟨_,e,rfl⟩
 unfold callAny
 repeat (any_goals (first | assumption | wp_step))
 exact ⟨Code.quiet_builtin _ (by decide +kernel),codeAny_builtin PySem.F.entry_list_append (by
  rw [Around.under_plainId PySem.F.slot_list_append.plain]
  set_option backward.match.sparseCases true in exact list_append l xs n v hz AB w A (fun r s'=>match r with | .ok (.ret v)=>Q v s' | .ok _=>False | .error e=>E e s') _ ⟨e,h⟩)⟩
theorem YM {b l:Addr} (hb:s.heap.get? b=some {cls:=.type "method-wrapper",data:=.fields #[.builtin "list_iterator.__next__",.ref it]})
  (hi:s.heap.get? it=some {cls:=.type "list_iterator",data:=.fields #[.ref l,.int i 0]}) (e:s.heap.get? l=some (Ba xs n))
  (h1:∀x,xs[i]? = some x->Q x {s with heap:=s.heap.update it (Obj.mapFields fun vs=>vs.setIfInBounds 1 (rawInt ((i:Int)+1)))})
  (h2:xs[i]? = none->∀(B:Around) (a:Addr) (h':Heap),B.handled=A.handled->(∀b o,s.heap.get? b=some o->b≠it->h'.get? b=some o)->h'.get? it≠none->s.heap.get? a=none->(∃t f,h'.get? a=some {cls:=.type "StopIteration",data:=.fields #[.ref t,.none,.none,.none,.bool false,f]})->
   wpAny (model AB w) B (raiseNew (.ref a):Sem PySem.Fin) (fun _ _=>False) E {s with heap:=h'}):wpAny (model AB w) A (call (.ref b) []) Q E s:=by
 obtain ⟨hp,g,d,tk,os⟩:=s
 dsimp only at hb e hi h2
 have e:hp.get? l=some {cls:=.type "list",dict:=none,data:=.seq xs n,slots:=#[]}:=e
 refine wpAny_call (codeAny_of_tree ?_)
 show wpAny _ _ (callAny (.ref b) _) _ _ _
 have hT:(⟨hp,g,d,tk,os⟩:Shared).TypeIs (.ref it) "list_iterator":=⟨_,hi,rfl⟩
 unfold callAny
 repeat (any_goals (first | assumption | wp_step))
 refine ⟨Code.quiet_builtin _ (by decide +kernel),codeAny_builtin entry_listiter_next ?_⟩
 show wpAny _ _ (field (.ref it) 0 >>= _) _ _ _
 refine ah (wpAny_field hi rfl (x:=.ref l) rfl ?_)
 show wpAny _ _ (if (Value.ref l==Value.none)=true then _ else _) _ _ _
 rw [aj (show ¬ ((Value.ref l==Value.none)=true) from Bool.false_ne_true)]
 show wpAny _ _ (field (.ref it) 1 >>= _) _ _ _
 refine ah (wpAny_field hi rfl (x:=.int i 0) rfl ?_)
 show wpAny _ _ (seqItems? (.ref l) >>= _) _ _ _
 refine ah (wpAny_seqItems e rfl ?_)
 show wpAny _ _ (match xs[i]? with | some x=>_ | none=>_) _ _ _
 induction hx:xs[i]? using oc with
 |some x=>
  refine ah (wpAny_setField hi rfl (by simp) (aq ?_))
  exact h1 x hx
 |none=>
  refine ah (wpAny_rule (ah (wpAny_setField hi rfl (by simp) ?_)))
  show wpAny _ _ (newExc (.type "StopIteration") [] >>= _) _ _ _
  refine ah ?_
  unfold newExc newTuple
  refine ah (wpAny_newObj_type ?_ (by size_fits))
  refine ah (m:=firstArgMember _ _) (wpAny_of_eq (a:=Value.none) (by first | rfl | (simp only [firstArgMember];rfl)) ?_)
  refine wpAny_newObj_type ?_ (by size_fits)
  have k:∀b o,hp.get? b=some o->b≠it->((hp.update it (Obj.mapFields fun x=>x.setIfInBounds 0 Value.none)).push {cls:=.type "tuple",data:=.seq #[]}).get? b=some o:=fun b o q n=>
   bf _ ((Heap.get?_update_ne _ _ _ _ n).trans q)
  have hu:(hp.update it (Obj.mapFields fun x=>x.setIfInBounds 0 Value.none)).get? it=some {cls:=.type "list_iterator",data:=.fields #[.none,.int i 0]}:=bz _ hi rfl
  refine b9 (h2 hx _ _ _ ?_ (fun b o q n=>bf _ (k b o q n)) ?_ ?_ ⟨_,_,au _ rfl⟩) (fun _ _ z=>z.elim) fun _ _ z=>z
  .rw [Around.under_plainId slot_listiter_next.plain]
  .exact A8 (bf _ (bf _ hu))
  .show hp.get? (((hp.update it _).push _).objs.size)=none
   exact Heap.get?_none_of_le (by rw [Heap.size_push,Heap.size_update];exact Nat.le_succ _)
theorem l8 (h:method i "append" as st=some o):∃l v,st.hp[i]? = some (.list l)/\as=[v]/\method i "append" as st=AD (CO i (l++[v])) (fun _=>AF .none) st:=by
 obtain ⟨ob,ho,e⟩:=GB h
 induction ob using O.casesOn with
 |list l=>
  rcases Pk e with ⟨v,rfl,_⟩ | ⟨_,_,q⟩ | ⟨_,q⟩ | ⟨_,q⟩
  .exact ⟨l,v,ho,rfl,(Kn ho).trans (congrFun Pn st)⟩
  .exact absurd q (by decide)
  .exact absurd q (by decide)
  .exact absurd q (by decide)
 |dict l cl=>rcases OD e with ⟨_,_,q⟩ | ⟨_,q⟩ <;> exact absurd q (by decide)
 |set l=>obtain ⟨_,_,q,_⟩:=QT e;exact absurd q (by decide)
 |iter l k=>
  induction as using lc with
  |nil=>exact absurd (CE (show (if "append" = "__next__" then Fd i l k else AG) st=_ from e)).1 (by decide)
  |cons _ _=>exact nn e
 |_=>exact nn e
theorem l9 (h:method i "__next__" as st=some o):∃l k,st.hp[i]? = some (.iter l k)/\as=[]/\method i "__next__" as st=Fd i l k st:=by
 obtain ⟨ob,ho,e⟩:=GB h
 induction ob using O.casesOn with
 |list l=>rcases Pk e with ⟨_,_,q⟩ | ⟨_,_,q⟩ | ⟨_,q⟩ | ⟨_,q⟩ <;> exact absurd q (by decide)
 |dict l cl=>rcases OD e with ⟨_,_,q⟩ | ⟨_,q⟩ <;> exact absurd q (by decide)
 |set l=>obtain ⟨_,_,q,_⟩:=QT e;exact absurd q (by decide)
 |iter l k=>
  induction as using lc with
  |nil=>exact ⟨l,k,ho,rfl,(Kn ho).trans (congrFun (show Hl i l k "__next__" []=Fd i l k by unfold Hl;dsimp only;rw [ak rfl]) st)⟩
  |cons _ _=>exact nn e
 |_=>exact nn e
theorem nM {l k:Nat} (h:Fd i l k st=some o):∃xs,st.hp[l]? = some (.list xs)/\((∃v,xs[k]? = some v/\Fd i l k st=AD (BJ i (.iter l (k+1))) (fun _=>AF v) st)\/(xs[k]? = none/\st.lo<=i/\st.hd=0/\Fd i l k st=some (.ex "StopIteration" {st with hp:=st.hp.set i .gone}))):=by
 obtain ⟨ob,ho,e⟩:=GB h
 have e1:=Kn (f:=fun o=>match o with
  | .list xs=>match xs[k]? with
   |some v=>AD (BJ i (.iter l (k+1))) fun _=>AF v
   | .none=>AD (BJ i .gone) fun _=>DL "StopIteration"
  |_=>AG) ho
 induction ob using O.casesOn with
 |list xs=>
  refine ⟨xs,ho,?_⟩
  dsimp only at e e1
  induction hx:xs[k]? using oc with
  |some v=>rw [hx] at e1;exact .inl ⟨v,rfl,e1⟩
  |none=>
   rw [hx] at e e1
   dsimp only at e e1
   rcases HP e with ⟨_,s1,e2,e3⟩ | ⟨_,_,e2,_⟩
   .obtain ⟨Bc,e4⟩:=Cu e2
    cases e4
    have h0:st.hd=0:=Classical.byContradiction fun h0=>G1 ((show DL (α:=V) "StopIteration" {st with hp:=st.hp.set i .gone}=none by unfold DL;rw [aj h0,aj (fun q=>absurd q.2 (by decide))]).symm.trans e3)
    exact .inr ⟨rfl,Bc,h0,e1.trans ((AJ e2).trans (ak h0))⟩
   .obtain ⟨_,e4⟩:=Cu e2
    cases e4
 |_=>exact nn e
theorem jl {nm:String} (H:AK AB w A AA Z φ ρ st s.heap) (hv:VR w.params φ ρ rf (.bm nm i)) (vl:AV w.params φ ρ vs as) (N:As AB w A AA Z φ ρ st s (method i nm as st) Q E):wpAny (model AB w) A (call rf vs) Q E s:=by
 rcases hv.Nm with ⟨rfl,b,l,hf,hi,rfl⟩ | ⟨rfl,b,it,hf,hi,rfl⟩
 .obtain ⟨_,e⟩:=N.get
  obtain ⟨l,v,ho,rfl,e1⟩:=l8 e
  have N1:=N.cast e1
  clear N e e1
  obtain ⟨rv,rfl,hv⟩:=vl.one
  obtain ⟨z,hn,xs,n,e,hl⟩:=H.rel.ob _ _ _ ho hi
  have CQ:xs.size=l.length:=by rw [<-az,hl.length]
  refine YK (H.rel.fz _ _ hf) e (CS (CQ ▸ hn)) ?_
  exact N1.Ao.2.2 _ _ _ .none (LX H ho hi e (by rw [Array.toList_push];exact hl.append (.cons hv .nil)) N1.Ao.1 N1.Ao.2.1)
 .obtain ⟨_,e⟩:=N.get
  obtain ⟨l,k,ho,rfl,e1⟩:=l9 e
  have N1:=N.cast e1
  rw [e1] at e
  clear N e1
  obtain ⟨xs,gn,h⟩:=nM e
  clear e
  rw [vl.zero]
  obtain ⟨z,q,hq,e⟩:=H.rel.ob _ _ _ ho hi
  obtain ⟨_,hn,ys,n,e2,hl⟩:=H.rel.ob _ _ _ gn hq
  refine YM (H.rel.fz _ _ hf) e e2 (fun x hx=>?_) fun hx B a h' hB k' hit O3 ⟨t,f,Gr⟩=>?_
  .rcases h with ⟨v,EW,e3⟩ | ⟨EW,_⟩
   .obtain ⟨rv,h1,h2⟩:=hl.get EW
    rw [Array.getElem?_toList,hx] at h1
    obtain rfl:=aa h1
    have hu:(s.heap.update it (Obj.mapFields fun vs=>vs.setIfInBounds 1 (rawInt ((k:Int)+1)))).get? it=some {cls:=.type "list_iterator",data:=.fields #[.ref q,.int ((k+1:Nat):Int) 0]}:=bz _ e rfl
    have N2:=N1.cast e3
    exact N2.Fi.2 _ _ _ h2 (H.change hi _ N2.Fi.1 (fun b o q n _=>(Heap.get?_update_ne _ _ _ _ n).trans q) (A8 hu) (fun d q=>by exact nn q) ⟨rfl,q,hq,hu⟩)
   .rw [Array.getElem?_eq_none (by rw [<-az,hl.length];exact List.getElem?_eq_none_iff.mp EW)] at hx
    exact nn hx
  .rcases h with ⟨v,EW,_⟩ | ⟨EW,Bc,h0,e4⟩
   .obtain ⟨rv,h1,h2⟩:=hl.get EW
    rw [Array.getElem?_toList,hx] at h1
    exact nn h1
   .have p:=H.change hi .gone Bc (fun b o q n _=>k' b o q n) hit (fun d q=>by exact nn q) rfl
    exact wpAny_raiseNew_none (hB.trans (H.amb.hd.1 h0)) (N1.ex _ _ e4 (.ref a) φ ρ h' s.toks ⟨a,_,_,rfl,O3,fun m=>H.rel.th a m O3,H.fresh O3,Gr,rfl,rfl,by simp,fun _=>rfl,.inl rfl⟩ p)
theorem Fy.mv (X':Fy A AE ρ' Z hd' h') (X:Fy A φ ρ Z hd h) (e:hd'=hd) (k:∀L,h.get? L≠none->∀o,h'.get? L=some o->Ax.get? L=some o)
  (off:∀L,h.get? L≠none->L∉Aa ρ'->AE L=none->L∉Aa CP/\CC L=none):Fy A CC CP Z hd' Ax:=by
 refine ⟨?_,⟨X'.hd.1,fun q=>?_⟩,X'.un⟩
 .obtain ⟨l,e,r⟩:=X'.fr
  obtain ⟨l',e',r'⟩:=X.fr
  obtain rfl:=Be e e'
  refine ⟨l,e,fun x hx=>⟨(r x hx).1,?_⟩⟩
  obtain ⟨L,o,a1,a2,a3,a4,a5⟩:=(r x hx).2
  obtain ⟨L',o',b1,b2,_,_,_⟩:=(r' x hx).2
  have z:=A8 b2
  rw [<-Be a1 b1] at z
  obtain ⟨z1,z2⟩:=off L z a4 a5
  exact ⟨L,o,a1,k _ z _ a2,a3,z1,z2⟩
 .obtain ⟨x,ox,vs,a1,a2,a3,a4,a5,a6,a7⟩:=X'.hd.2 q
  obtain ⟨x',oB,w6,b1,b2,_,_,_,_,_⟩:=X.hd.2 (e ▸ q)
  have z:=A8 b2
  rw [<-Value.ref.inj (Be a1 b1)] at z
  obtain ⟨z1,z2⟩:=off x z a5 a6
  exact ⟨x,ox,vs,a1,k _ z _ a2,a3,a4,z1,z2,a7⟩
theorem ER.mv (X':ER P AE ρ' AA Z st' h') (X:ER P φ ρ AA Z st h) (sc:st'.sc=st.sc) (e1:Cw.AA=st'.AA) (e2:Cw.sc=st'.sc) (l:Le AE CC) (q:Pf ρ' CP) (k:∀L,h.get? L≠none->∀o,h'.get? L=some o->Ax.get? L=some o)
  (off:∀L,h.get? L≠none->L∉Aa ρ'->AE L=none->L∉Aa CP/\CC L=none):ER P CC CP AA Z Cw Ax:=by
 have zl:=fun a ha=>(X.zr a ha).2.2
 refine ⟨X'.kind,X'.gl,X'.bl,by rw [e2];exact X'.cd,by rw [e2];exact X'.kl,by rw [e2];exact X'.kc,by rw [e2];exact X'.kf,by rw [e2];exact X'.kg,?_,fun x hx=>?_,by rw [e2];exact X'.inj,X'.zl,fun a ha=>?_⟩
 .obtain ⟨m,⟨o,es,ep,ho,r⟩,hm⟩:=X'.ns
  refine ⟨m,⟨o,es,ep,k _ (zl _ X'.zl) _ ho,r⟩,fun x v hx hv=>?_⟩
  rw [e1] at hv
  rw [e2] at hx
  obtain ⟨rv,a,b⟩:=hm x v hx hv
  exact ⟨rv,a,b.mono l q⟩
 .rw [e2] at hx
  rw [e1,e2]
  obtain ⟨c,ov,a1,⟨o,a2,hd⟩,a3,a4,a5,a6⟩:=X'.ce x hx
  obtain ⟨c',Uv,b1,⟨o',b2,_⟩,_,_,_,_⟩:=X.ce x (sc ▸ hx)
  have z:=A8 b2
  rw [<-Be a1 b1] at z
  obtain ⟨z1,z2⟩:=off c z a4 a5
  refine ⟨c,ov,a1,⟨o,k _ z _ a2,hd⟩,fun v hv=>?_,z1,z2,a6⟩
  obtain ⟨rv,a,b⟩:=a3 v hv
  exact ⟨rv,a,b.mono l q⟩
 .obtain ⟨z1,z2,z3⟩:=X'.zr a ha
  obtain ⟨y1,y2⟩:=off a (zl a ha) z1 z2
  obtain ⟨o,e⟩:=Option.ne_none_iff_exists'.mp z3
  exact ⟨y1,y2,A8 (k a (zl a ha) o e)⟩
theorem Al.late (H:AK AB w A AA Z φ ρ st h) (p:Al AB w A AA Z φ ρ st h AE ρ' st' h') (hD:h.get? D=none) (hr:D∉Aa ρ') (hf:AE D=none)
  (k:∀b o,h'.get? b=some o->b≠D->Ax.get? b=some o):Al AB w A AA Z φ ρ st h AE ρ' st' Ax:=by
 have old:∀b,h.get? b≠none->b≠D:=fun b n e=>n (e ▸ hD)
 have live:∀b,b≠D->h'.get? b≠none->Ax.get? b≠none:=fun b n q=>by
  obtain ⟨o,e⟩:=Option.ne_none_iff_exists'.mp q
  exact A8 (k b o e n)
 have inr:∀a∈Aa ρ',a≠D:=fun a m e=>hr (e ▸ m)
 refine ⟨⟨fun b o e=>k b o (p.rel.fz _ _ e) (fun q=>G1 (hf.symm.trans (q ▸ e))),p.rel.len,fun i o q e1 e2=>(p.rel.ob i o q e1 e2).mono (.refl _) (.refl _) fun a ha x e=>k a x e (inr a (DV e2 ha)),p.rel.nd,p.rel.ap,fun a ha=>live a (inr a ha) (p.rel.th a ha)⟩,
  p.er.mv H.er p.sc rfl rfl (.refl _) (.refl _) (fun b n o e=>k b o e (old b n)) (fun _ _ a b=>⟨a,b⟩),p.amb.mv H.amb p.hd (fun b n o e=>k b o e (old b n)) (fun _ _ a b=>⟨a,b⟩),
  ⟨p.ext.le,p.ext.pf,p.ext.newF,p.ext.newR,fun a n=>live a (old a n) (p.ext.live a n),fun b o e n z=>?_⟩,p.lo,p.sc,p.hd,p.pre⟩
 have bD:b≠D:=old b (A8 e)
 rcases p.ext.keep b o e n z with e' | ⟨d,sl,e'⟩
 .exact .inl (k _ _ e' bD)
 .exact .inr ⟨d,sl,k _ _ e' bD⟩
theorem Al.WQ (H:AK AB w A AA Z φ ρ st h) (p:Al AB w A AA Z φ ρ st h AE ρ' st' h') (hD:h.get? D=none) (hr:D∉Aa ρ') (hf:AE D=none) (ho:h'.get? D=some ob) :
  Al AB w A AA Z φ ρ st h (put AE D ob) ρ' st' h':=by
 have old:∀b,h.get? b≠none->b≠D:=fun b n e=>n (e ▸ hD)
 have ne:∀b,b≠D->put AE D ob b=AE b:=fun b n=>aj n
 have le:Le AE (put AE D ob):=fun b x e=>(ne b (fun q=>G1 (hf.symm.trans (q ▸ e)))).trans e
 have off:∀L,h.get? L≠none->L∉Aa ρ'->AE L=none->L∉Aa ρ'/\put AE D ob L=none:=fun L n a b=>⟨a,(ne L (old L n)).trans b⟩
 refine ⟨⟨fun b x e=>?_,p.rel.len,fun i o q e1 e2=>(p.rel.ob i o q e1 e2).mono le (.refl _) fun a ha x e=>e,p.rel.nd,fun a ha=>(ne a (fun q=>hr (q ▸ ha))).trans (p.rel.ap a ha),p.rel.th⟩,
  p.er.mv H.er p.sc rfl rfl le (.refl _) (fun b n o e=>e) off,p.amb.mv H.amb p.hd (fun b n o e=>e) off,
  ⟨p.ext.le.trans le,p.ext.pf,fun a o e n=>?_,p.ext.newR,p.ext.live,p.ext.keep⟩,p.lo,p.sc,p.hd,p.pre⟩
 .by_cases q:b=D
  .rw [q] at e ⊢;rw [<-Be (DY AE D ob) e];exact ho
  .exact p.rel.fz _ _ ((ne b q).symm.trans e)
 .by_cases q:a=D
  .rw [q];exact hD
  .exact p.ext.newF a o ((ne a q).symm.trans e) n
theorem Al.vY (H:AK AB w A AA Z φ ρ st h) (p:Al AB w A AA Z φ ρ st h AE ρ' st' h') {x:O} (hD:h.get? D=none) (hr:D∉Aa ρ') (hf:AE D=none) (hl:h'.get? D≠none)
  (ho:OR AB w AE (ρ'++[(D,none)]) h' (D,none) x):Al AB w A AA Z φ ρ st h AE (ρ'++[(D,none)]) {st' with hp:=st'.hp++[x]} h':=by
 have old:∀b,h.get? b≠none->b≠D:=fun b n e=>n (e ▸ hD)
 have pf:Pf ρ' (ρ'++[(D,none)]):=⟨_,rfl⟩
 have ad:Aa (ρ'++[(D,none)])=Aa ρ'++[D]:=by rw [KS];rfl
 have mem:∀a∈Aa (ρ'++[(D,none)]),a∈Aa ρ'\/a=D:=fun a ha=>by
  rw [ad] at ha
  exact (List.mem_append.mp ha).imp id List.mem_singleton.mp
 have off:∀L,h.get? L≠none->L∉Aa ρ'->AE L=none->L∉Aa (ρ'++[(D,none)])/\AE L=none:=fun L n a b=>⟨fun m=>(mem L m).elim a (old L n),b⟩
 have Bc:=p.lo_le H.lo
 refine ⟨⟨p.rel.fz,by rw [List.length_append,List.length_append,p.rel.len];rfl,fun i y q e1 e2=>?_,?_,fun a ha=>?_,fun a ha=>?_⟩,
  p.er.mv H.er p.sc rfl rfl (.refl _) pf (fun b n o e=>e) off,p.amb.mv H.amb p.hd (fun b n o e=>e) off,
  ⟨p.ext.le,p.ext.pf.trans pf,p.ext.newF,fun a ha n=>?_,p.ext.live,p.ext.keep⟩,p.lo,p.sc,p.hd,?_⟩
 .by_cases hi:i<ρ'.length
  .rw [bw hi] at e2
   have e1:(st'.hp++[x])[i]? = some y:=e1
   rw [bw (p.rel.len ▸ hi)] at e1
   exact (p.rel.ob i y q e1 e2).mono (.refl _) pf fun a _ z e=>e
  .have DS:i=ρ'.length:=by
    have:=(List.getElem?_eq_some_iff.mp e2).1
    rw [List.length_append] at this
    exact Nat.le_antisymm (Nat.le_of_lt_succ this) (Nat.le_of_not_lt hi)
   rw [DS,List.getElem?_concat_length] at e2
   have e1:(st'.hp++[x])[i]? = some y:=e1
   rw [DS,p.rel.len,List.getElem?_concat_length] at e1
   rw [<-aa e2,<-aa e1]
   exact ho
 .rw [ad]
  refine List.nodup_append.mpr ⟨p.rel.nd,List.nodup_cons.mpr ⟨List.not_mem_nil,List.nodup_nil⟩,fun a ha b hb q=>?_⟩
  rw [List.mem_singleton.mp hb] at q
  exact hr (q ▸ ha)
 .rcases mem a ha with ha | rfl
  .exact p.rel.ap a ha
  .exact hf
 .rcases mem a ha with ha | rfl
  .exact p.rel.th a ha
  .exact hl
 .rcases mem a ha with ha | rfl
  .exact p.ext.newR a ha n
  .exact hD
 .have:st.lo<=st'.hp.length:=p.lo ▸ Bc
  exact (List.take_append_of_le_length this).trans p.pre
theorem Ext.Mb (x:Ext φ ρ h Z AE ρ' h') (hD:h.get? D≠none) (hr:D∉Aa ρ) (hf:φ D=none):D∉Aa ρ'/\AE D=none:=by
 refine ⟨fun m=>hD (x.newR D m hr),?_⟩
 induction e:AE D using oc with
 |none=>rfl
 |some o=>exact absurd (x.newF D o e hf) hD
theorem Z8 {es pos}:Ih.v (step ih) (.ev (.JoinedStr es pos))=AD (parts ih ⟨#[]⟩ es) fun x=>AF (.str x):=by
 exact Cy (by (try simp only [A9]);rfl)
theorem empty_app (x:Str):(⟨#[]⟩++x:Str)=x:=by
 show (⟨#[]++x.cps⟩:Str)=x
 simp
theorem Uz {k:Nat} {p:Pos} {r:List Expr}:parts ih AM (.Constant (.str x) k p::r)=if x.length<=1000/\(AM++x).length<=1000 then parts ih (AM++x) r else AG:=rfl
theorem U0 {c:Int} {p:Pos} {r:List Expr}:parts ih AM (.FormattedValue e c none p::r)=if c = -1 then AD (ih.v (.ev e)) fun v=>match v with
  | .str s=>if (AM++s).length<=1000 then parts ih (AM++s) r else AG
  |_=>AG else AG:=rfl
inductive Nc:Expr->Prop
 |c (x:Str) (k:Nat) (p:Pos):Nc (.Constant (.str x) k p)
 |f (e:Expr) (c:Int) (p:Pos):Nc (.FormattedValue e c none p)
theorem Uy {r:List Expr} (h:parts ih AM (e::r) st≠none):Nc e:=by
 induction e using Expr.casesOn with
 |Constant c k p=>cases c <;> first | exact .c _ _ _ | exact absurd rfl h
 |FormattedValue e c sp p=>induction sp using oc <;> first | exact .f _ _ _ | exact absurd rfl h
 |_=>exact absurd rfl h
theorem Rd {m:M α} {f:α->M β} (h:AD m f st≠none):m st≠none:=fun e=>h (BQ e)
theorem S6 (he:∀e st,Au AB w A AA (eval e AA) st (ih.v (.ev e) st)) (es:List Expr):∀(AM:Str) (st:S) {Z:List Addr} {φ:Fz} {ρ:AZ} {s:Shared} {E:Value->Shared->Prop} {Q:Value->Shared->Prop},AK AB w A AA Z φ ρ st s.heap->AM.length<=1000->
  As AB w A AA Z φ ρ st s (AD (parts ih AM es) (fun x=>AF (V.str x)) st) Q E->Joins (model AB w) A E (evalEach es AA) AM (fun out Ay=>out.length<=sizeLine/\Q (.str out Ay.toks) {Ay with toks:=Ay.toks+1}) s:=by
 induction es with
 |nil=>
  intro AM st Z φ ρ s E Q H ha N
  have N:As AB w A AA Z φ ρ st s (AF (V.str AM) st) Q E:=N
  exact ⟨CS ha,N.pure H (.str _ _ ha) _⟩
 |cons e r ihp=>
  intro AM st Z φ ρ s E Q H ha N
  show wpAny (model AB w) A (eval e AA) _ E s
  cases Uy (Rd N.ne) with
  |c x k p=>
   rw [Uz] at N
   by_cases hx:x.length<=1000/\(AM++x).length<=1000
   .rw [ak hx] at N
    refine wpAny_Constant_str ⟨x,_,rfl,CS hx.2,?_⟩
    have p:=H.grow (h':=s.heap) fun _ _ e=>e
    exact ihp (AM++x) st (s:={s with toks:=s.toks+1}) H hx.2 (N.after p (s.toks+1))
   .rw [aj hx] at N;exact (N.ne rfl).elim
  |f e' c p=>
   rw [U0] at N
   by_cases hc:c = -1
   .subst hc
    rw [ak rfl] at N
    rw [A9] at N
    refine wpAny_FormattedValue_plain ((he e' st).BH H N fun v AL rv AY Ad AH AO vv H1 Ah N1=>?_)
    induction v using V.casesOn with
    |str x=>
     obtain ⟨t,rfl,hx⟩:=vv.I5
     by_cases hl:(AM++x).length<=1000
     .have N2:As AB w A AA _ AY Ad AL _ (AD (parts ih (AM++x) r) (fun x=>AF (V.str x)) AL) Q E:=N1.cast (by simp only [ak hl])
      refine PyProof.Rows.formatField_str (fun t' k=>?_) (CS hx)
      have AW:=H1.grow (h':=AH) fun _ _ e=>e
      exact ⟨x,t',rfl,CS hl,ihp (AM++x) AL (s:={s with heap:=AH,toks:=k}) H1 hl (N2.after AW k)⟩
     .exact (N1.ne (by simp only [aj hl];rfl)).elim
    |_=>exact (N1.ne rfl).elim
   .rw [aj hc] at N;exact (N.ne rfl).elim
theorem cu (he:∀e st,Au AB w A AA (eval e AA) st (ih.v (.ev e) st)) {es:List Expr}:Au AB w A AA (eval (.JoinedStr es pos) AA) st (Ih.v (step ih) (.ev (.JoinedStr es pos)) st):=by
 intro φ ρ Z s E Q H N
 rw [Z8] at N
 match es,N with
 | [],N=>exact wpAny_joinPartsRec [] ⟨#[]⟩ Q s (S6 he [] ⟨#[]⟩ st H (Nat.zero_le _) N)
 |Zu::A3::r,N=>exact wpAny_JoinedStr (S6 he (Zu::A3::r) ⟨#[]⟩ st H (Nat.zero_le _) N)
 | [e],N=>
  refine wpAny_JoinedStr_one ?_
  cases Uy (Rd N.ne) with
  |c x k p=>
   rw [Uz] at N
   by_cases hx:x.length<=1000/\((⟨#[]⟩:Str)++x).length<=1000
   .rw [ak hx,empty_app] at N
    exact wpAny_Constant_str (Ar.pure (v:=V.str x) N H (.str x _ hx.1) _)
   .rw [aj hx] at N;exact (N.ne rfl).elim
  |f e' c p=>
   rw [U0] at N
   by_cases hc:c = -1
   .subst hc
    rw [ak rfl] at N
    rw [A9] at N
    refine wpAny_FormattedValue_plain ((he e' st).BH H N fun v AL rv AY Ad AH AO vv H1 Ah N1=>?_)
    induction v using V.casesOn with
    |str x=>
     obtain ⟨t,rfl,hx⟩:=vv.I5
     by_cases hl:((⟨#[]⟩:Str)++x).length<=1000
     .have N2:As AB w A AA _ AY Ad AL _ (AF (V.str x) AL) Q E:=N1.cast (by rw [empty_app] at hl;simp only [empty_app,ak hl];rfl)
      exact PyProof.Rows.formatField_str (fun t' k=>Ar.pure N2 H1 (.str x t' hx) k) (CS hx)
     .exact (N1.ne (by simp only [aj hl];rfl)).elim
    |_=>exact (N1.ne rfl).elim
   .rw [aj hc] at N;exact (N.ne rfl).elim
theorem Z6 {ks es pos}:Ih.v (step ih) (.ev (.Dict ks es pos))=if JJ ks es then AD (dictOf ih ks es) fun l=>if (l.map (·.1)).Nodup/\l.length<=15 then AF (.dct l) else AG else AG:=by
 refine Cy (JU ?_)
 rw [A9]
 show AD _ _=AD _ _
 congr 1;funext l
 exact JU rfl
inductive KL (P:Params) (φ:Fz) (ρ:AZ):List (Value × Value)->List (Str × V)->Prop
 |nil:KL P φ ρ [] []
 |cons {v:Value} {x:V} {k:Str} {t:Tok} {vs:List (Value × Value)} {xs:List (Str × V)} (hk:k.length<=1000) (h:VR P φ ρ v x) (r:KL P φ ρ vs xs):KL P φ ρ ((.str k t,v)::vs) ((k,x)::xs)
theorem ZZ {k:Expr} {es:List Expr}:dictOf ih (some k::ks) (e::es)=AD (ih.v (.ev k)) fun kv=>match kv with
  | .str s=>AD (ih.v (.ev e)) fun v=>AD (dictOf ih ks es) fun r=>AF ((s,v)::r)
  |_=>AG:=rfl
theorem eH (he:∀e st,Au AB w A AA (eval e AA) st (ih.v (.ev e) st)) (ks:List (Option Expr)):∀(es:List Expr) (st:S),Di AB w A AA (KL w.params) (evalPairs (pairTrees ks es AA pos)) st (dictOf ih ks es st):=by
 induction ks with
 |nil=>
  intro es st φ ρ Z s E Q H N
  induction es using lc with
  |nil=>exact pairTrees_nil_walk (N.pure H .nil s.toks)
  |cons e es=>exact (N.ne rfl).elim
 |cons k ks ihk=>
  intro es st φ ρ Z s E Q H N
  induction es using lc with
  |nil=>induction k using oc <;> exact (N.ne rfl).elim
  |cons e es=>
   induction k using oc with
   |none=>exact (N.ne rfl).elim
   |some k=>
    rw [ZZ] at N
    refine pairTrees_cons_walk ((he k st).BH H N fun kv AL rk AY Ad AH AO vk H1 Ah N1=>?_)
    induction kv using V.casesOn with
    |str x=>
     obtain ⟨t,rfl,hx⟩:=vk.I5
     refine (he e AL).BH (s:={s with heap:=AH,toks:=AO}) H1 N1 fun v st2 rv Ab Ae AR Aw vv H2 AW N2=>?_
     refine (ihk es st2).BH (s:={s with heap:=AR,toks:=Aw}) H2 N2 fun l CH rl B9 B8 BE Cx vl H3 BB N3=>?_
     exact N3.pure H3 (.cons hx (vv.mono BB.ext.le BB.ext.pf) vl) _
    |_=>exact (N1.ne rfl).elim
theorem ql:∀{l:Loc},k∉l.map (·.1)->Ao k v l=l++[(k,v)]:=by
 intro l_
 induction l_ with
 |nil=>
  intro _
  exact rfl
 |cons BN r AU=>
  obtain ⟨y,u⟩:=BN
  intro h
  rw [bq,List.mem_cons,not_or] at h
  unfold Ao
  rw [aj (by simp [Ne.symm h.1]),AU h.2]
  rfl
theorem VR.le {v:Value} {x:V} (h:VR P φ ρ v x) (l:Le φ AE):VR P AE ρ v x:=h.mono l (.refl _)
theorem uX {vs:List (Value × Value)} {l:Loc} (b:KL w.params φ ρ vs l):∀{AM:Loc} {s:Shared} {od:Obj} {es:Array DictEntry} {n:Nat} {Q:PUnit->Shared->Prop},((AM++l).map (·.1)).Nodup->(AM++l).length<=1000->s.heap.get? D=some od->od.cls = .type "dict"->od.data = .dict es n->Az w.params φ ρ es.toList AM->
  (∀Jj DH n' h' tk,h'.get? D=some Jj->Jj.cls = .type "dict"->Jj.data = .dict DH n'->Az w.params φ ρ DH.toList (AM++l)->(∀b o,s.heap.get? b=some o->b≠D->h'.get? b=some o)->Q PUnit.unit {s with heap:=h',toks:=tk})->wpAny (model AB w) A (storeAll D vs) Q E s:=by
 induction b with
 |nil=>
  intro AM s od es n Q _ _ hD hc hd hl h
  unfold storeAll
  rw [List.forIn_nil]
  refine aq ?_
  rw [List.append_nil] at h
  exact h od es n s.heap s.toks hD hc hd hl fun _ _ e _=>e
 | @cons v x k t vs xs hk hv r ih=>
  intro AM s od es n Q nd hlen hD hc hd hl h
  unfold storeAll
  rw [List.forIn_cons]
  have gj:k∉AM.map (·.1):=by
   rw [List.map_append,bq,List.nodup_append] at nd
   exact fun m=>nd.2.2 k m k (.head _) rfl
  have ea:(AM++[(k,x)])++xs=AM++(k,x)::xs:=by simp
  refine ah (ah (dict_set hD hd hl hv hk (by simp at hlen;lia) fun DH n' h' tk e' EV _ keep=>aq ?_))
  rw [ql gj] at EV
  refine ih (AM:=AM++[(k,x)]) (s:={s with heap:=h',toks:=tk}) (by rw [ea];exact nd) (by rw [ea];exact hlen) e' hc rfl EV fun Jj Z5 mz Ax CI a1 a2 a3 a4 a5=>?_
  rw [ea] at a4
  exact h Jj Z5 mz Ax CI a1 a2 a3 a4 fun b o e q=>a5 b o (keep b o e q) q
theorem Az.le {v:List DictEntry} {x:Loc} (h:Az P φ ρ v x) (l:Le φ AE):Az P AE ρ v x:=h.mono l (.refl _)
theorem U5 {a:Addr} {o:Obj} (h:φ a=none):Le φ (put φ a o):=fun b x e=>by
 unfold Mine.put
 rw [aj (fun q=>by rw [q,h] at e;exact nn e)]
 exact e
theorem cX (he:∀e st,Au AB w A AA (eval e AA) st (ih.v (.ev e) st)) {es:List Expr}:Au AB w A AA (eval (.Dict ks es pos) AA) st (Ih.v (step ih) (.ev (.Dict ks es pos)) st):=by
 intro φ ρ Z s E Q H N
 rw [Z6] at N
 by_cases hk:JJ ks es=true
 .rw [ak hk] at N
  unfold JJ at hk
  simp only [Bool.and_eq_true,decide_eq_true_eq,beq_iff_eq,Bool.not_eq_true',List.isEmpty_eq_false_iff] at hk
  obtain ⟨⟨⟨k1,k2⟩,k3⟩,k4⟩:=hk
  have p0:=H.grow (h':=s.heap.push {cls:=.type "dict",data:=.dict #[]}) fun b o e=>bf _ e
  have H0:=H.after p0
  have hD:=EE s.heap
  have MC:(s.heap.push {cls:=.type "dict",data:=.dict #[]}).get? s.heap.objs.size=some (HW #[] 0):=au _ rfl
  refine wpAny_Dict_any k1 k2 k3 k4 (eH he ks es st φ ρ Z {s with heap:=s.heap.push {cls:=.type "dict",data:=.dict #[]}} E _ H0 ⟨fun q=>N.ne (BQ q),fun l AL q vs AY Ad AH AO vl Ah=>?_,fun c AL q e AY Ad AH AO f Ah=>N.ex c AL (Bu q) e AY Ad AH AO (f.le p0.ext.live) (p0.trans Ah)⟩)
  rw [AJ q] at N
  by_cases hn:(l.map (·.1)).Nodup/\l.length<=15
  .rw [ak hn] at N
   obtain ⟨o1,o2⟩:=Ah.ext.Mb (A8 MC) (fun m=>H.rel.th _ m hD) (H.fresh hD)
   have hz:s.heap.objs.size∉Z:=fun m=>(H.er.zr _ m).2.2 hD
   have hK:=Ah.ext.keep _ _ MC (fun m=>H.rel.th _ m hD) hz
   obtain ⟨sl,hK⟩:=hK.slots
   refine uX (s:={s with heap:=AH,toks:=AO}) (AM:=[]) vl hn.1 (by have:=hn.2;simp;lia) hK rfl rfl .nil fun Jj DH n' h' tk a1 a2 a3 a4 a5=>?_
   have AW:Al AB w A AA Z φ ρ st s.heap AY Ad AL h':=(p0.trans Ah).late H hD o1 o2 a5
   have BB:=AW.WQ H hD o1 o2 a1
   exact N.ok _ _ rfl (.ref s.heap.objs.size) _ _ _ tk (.dct (DY ..) a2 a3 (a4.le (U5 o2))) BB
  .rw [aj hn] at N;exact (N.ne rfl).elim
 .rw [aj hk] at N;exact N.Bd.elim
theorem v9 (c:Nat) (t:Tok) (D:Value):Builtin.Str.strOneArg "translate" ⟨[.str ⟨#[c]⟩ t,D],[]⟩=pure (.str ⟨#[c]⟩ t,⟨#[c]⟩,D):=by rfl
theorem jF:isSubtype (.type "KeyError") (.type "LookupError")=pure true:=by rw [isSubtype_type];kernel_rfl
theorem lA {c:Nat} {Q:Builtin.Str.Mapped->Shared->Prop} (hm:s.heap.MapOf (intKind AB w) D f) (hv:f c=none) (hd:(D==sysModules)=false) (hh:A.handled=none)
  (h:∀h' tk,(∀b o,s.heap.get? b=some o->h'.get? b=some o)->Q .keep {s with heap:=h',toks:=tk}):wpAny (model AB w) A (Builtin.Str.tableLookup (.ref D) c) Q E s:=by
 unfold Builtin.Str.tableLookup
 refine ah (wpAny_attempt (ah (wpAny_mkInt ?_)))
 refine wpAny_getItem_missing_of (knd:=intKind AB w) (k:=(c:Int)) (s:={s with toks:=s.toks+1}) ?_ hd hh hm hv fun h' e m=>?_
 .show Value.isInt (c:Int) (Value.int (c:Int) s.toks)=true
  simp [Value.isInt]
 .dsimp only
  refine ah (wpAny_isInstance ?_ jF ?_)
  .obtain ⟨ob,t,a,b,_⟩:=m.there
   exact ⟨ob,a,b⟩
  .exact ah (wpAny_rule (aq (h h' _ m.keeps)))
theorem Ro {c:Nat} (hc:c<128) (hm:s.heap.MapOf (intKind AB w) D f) (hv:f c=none) (hd:(D==sysModules)=false) (hh:A.handled=none)
  (h:∀h' tk t',(∀b o,s.heap.get? b=some o->h'.get? b=some o)->Q (.str ⟨#[c]⟩ t') {s with heap:=h',toks:=tk}):wpAny (model AB w) A (call (.builtin "str.translate") [.str ⟨#[c]⟩ t,.ref D]) Q E s:=by
 refine wpAny_call_entry PySem.F.slot_str_translate (typeIs_str _ _ t) PySem.F.entry_str_translate ?_ (PySem.F.args_str_translate_2 _ _)
 unfold Builtin.«str.translate»
 refine ah (NR (v9 c t _) (aq ?_))
 refine wpAny_ite_false (by rfl) ?_
 refine ah (NR (List.forIn_toArray ..) (NR (List.forIn_cons ..) (ah ?_)))
 refine wpAny_ite_false (show decide (Builtin.Str.tooLong 0=true)=false from by decide) ?_
 refine wpAny_ite_true (show decide ((#[c].all fun x=>decide (x<128))=true)=true from by simp [hc]) ?_
 refine ah (lA hm hv hd hh fun h' tk k=>?_)
 dsimp only
 refine ah (aq (aq ?_))
 refine NR List.forIn_nil (aq ?_)
 refine wpAny_ite_false (show decide (Builtin.Str.tooLong (0+1)=true)=false from by decide) ?_
 unfold retStr
 refine ah (wpAny_mkStr (aq ⟨_,rfl,h h' _ _ k⟩) (by show 1<=sizeLine;decide))
noncomputable def Tj (es:Array DictEntry):Bool:=es.toList.all fun e=>match e.key with | .int i _=>e.hash==hashInt i | _=>false
theorem ig {es:Array DictEntry} (h:Tj es=true):KeysOf (PySem.intKind AB w) es:=fun e m=>by
 have:=List.all_eq_true.mp h e (Array.mem_toList_iff.mpr m)
 induction hk:e.key using Value.casesOn with
 |int i t=>
  rw [hk] at this
  exact ⟨i,by show Value.isInt i (.int i t)=true;simp [Value.isInt],eq_of_beq this⟩
 |_=>rw [hk] at this;exact Bool.noConfusion this
theorem kO (H:AK AB w A AA Z φ ρ st s.heap) (h0:st.hd=0) (hx:x = "a"\/x = "b")
  (h:∀h' tk,(∀b o,s.heap.get? b=some o->h'.get? b=some o)->∀t',Q (.str x t') {s with heap:=h',toks:=tk}):wpAny (model AB w) A (call (.builtin "str.translate") [.str x t,.ref 45]) Q E s:=by
 have e:(KK w.params).lookup 45=some ⟨.type "dict",none,.dict (G2 w.params 45) 24,#[]⟩:=by kernel_rfl
 have hk:Tj (G2 w.params 45)=true:=by kernel_rfl
 have hm:s.heap.MapOf (PySem.intKind AB w) 45 (findBy (PySem.intKind AB w).is (G2 w.params 45)):=⟨_,_,24,H.CR _ _ e,⟨rfl,rfl,rfl⟩,rfl,ig hk,fun _=>rfl⟩
 rcases hx with rfl | rfl
 .exact Ro (c:=97) (by decide) hm (by kernel_rfl) (by decide) (H.amb.hd.1 h0) fun h' tk t' k=>h h' tk k t'
 .exact Ro (c:=98) (by decide) hm (by kernel_rfl) (by decide) (H.amb.hd.1 h0) fun h' tk t' k=>h h' tk k t'
theorem wg (x:Str):∀ys:List Str,Txt.join x ys=Ho x ys
 | []=>rfl
 | [y]=>rfl
 |_::_::_=>rfl
theorem uy {l:List Str} (h:∀x∈l,x.length<=1000):(l.map (·.length)).sum<=l.length*1000:=by
 induction l with
 |nil=>simp
 |cons x r ih=>
  have h1:=h x (.head _)
  have h2:=ih fun y m=>h y (.tail _ m)
  simp only [bq,List.sum_cons,List.length_cons]
  lia
theorem um {l:List V} {r:List Str} (e:Mine.CU l=some r):r.length=l.length:=by
 induction l generalizing r with
 |nil=>rw [<-aa (e:some []=some r)];rfl
 |cons x l ih=>
  obtain ⟨a,as,_,e2,e3⟩:=DG (show both x.B7 (DP V.B7 l) (fun a as=>some (a::as))=some r from e)
  rw [<-aa e3]
  exact congrArg (· + 1) (ih e2)
theorem tQ {nm id:String} (h:EI nm=some id):(nm = "join"/\id = "str.join")\/(nm = "replace"/\id = "str.replace")\/(nm = "translate"/\id = "str.translate"):=by
 unfold EI at h
 by_cases q1:nm = "join"
 .rw [ak q1] at h;exact .inl ⟨q1,(aa h).symm⟩
 rw [aj q1] at h
 by_cases q2:nm = "replace"
 .rw [ak q2] at h;exact .inr (.inl ⟨q2,(aa h).symm⟩)
 rw [aj q2] at h
 obtain ⟨c,e⟩:=Cu h
 exact .inr (.inr ⟨c,(aa e).symm⟩)
theorem tR {nm id:String} (h:EI nm=some id):RC (Str.ofString nm) "str" id:=by
 rcases tQ h with ⟨rfl,rfl⟩ | ⟨rfl,rfl⟩ | ⟨rfl,rfl⟩
 .exact ⟨PySem.F.plainAttrs_str,PySem.F.slot_str_join,PySem.F.type_str_join⟩
 .exact ⟨PySem.F.plainAttrs_str,PySem.F.slot_str_replace,PySem.F.type_str_replace⟩
 .exact ⟨PySem.F.plainAttrs_str,PySem.F.slot_str_translate,PySem.F.type_str_translate⟩
theorem r7:EI "join" = some "str.join":=by unfold EI;rw [ak rfl]
theorem sW:EI "replace" = some "str.replace":=by unfold EI;rw [aj (by decide),ak rfl]
theorem tD:EI "translate" = some "str.translate":=by unfold EI;rw [aj (by decide),aj (by decide),ak rfl]
theorem j4 {rv:Value} (H:AK AB w A AA Z φ ρ st s.heap) (hx:x.length<=1000) (hv:VR w.params φ ρ rv v) (N:As AB w A AA Z φ ρ st s (K6 x v st) Q E):wpAny (model AB w) A (call (.builtin "str.join") [.str x t,rv]) Q E s:=by
 obtain ⟨l,hi,N⟩:=Ar.items (f:=fun l=>match Mine.CU l with | some l=>if (Ho x l).length<=1000 then AF (V.str (Ho x l)) else AG | .none=>AG) N
 induction hs:Mine.CU l using oc with
 |none=>rw [hs] at N;exact N.Bd.elim
 |some ss=>
  rw [hs] at N
  obtain ⟨_,e⟩:=N.get
  obtain ⟨h1,e'⟩:=CE (show (if (Ho x ss).length<=1000 then AF (V.str (Ho x ss)) else AG) st=_ from e)
  have M:=N.cast (e.trans e'.symm)
  clear N e e'
  obtain ⟨a,o,xs,n,T,rfl,hT,ho,hc,hd,vl,hn⟩:=hi.seq H hv
  obtain ⟨hS,EW⟩:=vl.Qg hs
  have hb:(ss.map (·.length)).sum+ss.length*x.length<=16777216:=by
   have h3:ss.length<=1000:=um hs ▸ hn
   exact bg (Nat.add_le_add (bg (uy EW) (Nat.mul_le_mul_right _ h3)) (Nat.mul_le_mul h3 hx)) (by decide)
  have fin:∀t' k,Q (.str (Txt.join x ss) t') {s with toks:=k}:=fun t' k=>by
   rw [wg];exact Ar.pure (v:=V.str (Ho x ss)) M H (.str _ t' h1) k
  rcases hT with rfl | rfl
  .exact join_list ⟨o,ho,hc,n,hd⟩ hS hb fin
  .exact join_tuple ⟨o,ho,hc,n,hd⟩ hS hb fin
theorem ud {nm:String} (h:E7 x nm as st=some o):(∃v,as=[v]/\nm = "join")\/(∃v,as=[v]/\nm = "translate")\/∃a b,as=[a,b]/\nm = "replace":=by
 induction as using lc with
 |nil=>exact nn h
 |cons v r=>induction r using lc with
  |nil=>
   by_cases q:nm = "join"
   .exact .inl ⟨v,rfl,q⟩
   .exact .inr (.inl ⟨v,rfl,(CE ((congrFun (aj q) st).symm.trans h)).1⟩)
  |cons b r=>induction r using lc with
   |nil=>exact .inr (.inr ⟨v,b,rfl,(CE (show (if nm = "replace" then Jt x v b else AG) st=_ from h)).1⟩)
   |cons _ _=>exact nn h
theorem uT:E7 x "join" [v]=K6 x v:=by unfold E7;dsimp only;rw [ak rfl]
theorem uV:E7 x "translate" [v]=NH x v:=by unfold E7;dsimp only;rw [aj (by decide),ak rfl]
theorem uU {a b:V}:E7 x "replace" [a,b]=Jt x a b:=by unfold E7;dsimp only;rw [ak rfl]
theorem kN {nm:Str} (H:AK AB w A AA Z φ ρ st s.heap) (hx:x.length<=1000) (vl:AV w.params φ ρ vs as)
  (N:As AB w A AA Z φ ρ st s (E7 x (Cc nm) as st) Q E) :
  ∃id,EI (Cc nm)=some id/\wpAny (model AB w) A (call (.builtin id) (.str x t::vs)) Q E s:=by
 obtain ⟨n0,gm⟩:∃n,Cc nm=n:=⟨_,rfl⟩
 rw [gm] at N ⊢
 obtain ⟨o,e⟩:=N.get
 rcases ud e with ⟨v,rfl,rfl⟩ | ⟨v,rfl,rfl⟩ | ⟨a,b,rfl,rfl⟩
 .obtain ⟨rv,rfl,hv⟩:=vl.one
  exact ⟨"str.join",r7,j4 H hx hv (uT ▸ N)⟩
 .obtain ⟨rv,rfl,hv⟩:=vl.one
  rw [uV] at N e
  have k:v = .glob 45/\st.hd=0/\(x = "a"\/x = "b")/\o = .ok (.str x) st:=by
   induction v using V.casesOn with
   |glob a=>
    obtain ⟨⟨h0,rfl,hx⟩,e'⟩:=Cu (show (if st.hd=0/\a=45/\(x = "a"\/x = "b") then some (Out.ok (V.str x) st) else none)=some o from e)
    exact ⟨rfl,h0,hx,(aa e').symm⟩
   |_=>exact nn e
  obtain ⟨rfl,h0,iK,rfl⟩:=k
  rw [hv.Ib]
  refine ⟨"str.translate",tD,kO H h0 iK fun h' tk k t'=>?_⟩
  exact N.ok _ _ e (.str x t') φ ρ h' tk (.str _ t' hx) (H.grow k)
 .obtain ⟨ra,rb,rfl,va,vb⟩:=vl.two
  rw [uU] at N e
  obtain ⟨a',b',e1,e2,e3⟩:=EM e
  obtain ⟨TG,e3⟩:=CE e3
  obtain rfl:=V.Fp e1
  obtain rfl:=V.Fp e2
  obtain ⟨ta,rfl⟩:=va.Bw
  obtain ⟨tb,rfl⟩:=vb.Bw
  refine ⟨"str.replace",sW,?_⟩
  refine call_gives PySem.F.slot_str_replace (typeIs_str _ _ _) PySem.F.entry_str_replace (PySem.F.args_str_replace_3 _ _ _) (gives_str_replace x a' b' t ta tb (fun q=>by rw [TG] at q;exact Bool.noConfusion q)) ?_
  rw [TG]
  exact (N.cast (e.trans e3.symm)).pure (v:=V.str x) H (.str _ t hx) s.toks
noncomputable def DC:Nat->Addr
 |1001=>77 | 1002=>114 | 1003=>121 | 1004=>128 | 1005=>133 | 1006=>140 | 1007=>161 | 1008=>168 | n=>n
theorem Rc {o:Expr} (h:DK o=true) {nm:Str} {t:Sem Value}:attributeBase o nm AA t=t:=by
 induction o using Expr.casesOn with
 |Call f as ks p=>
  induction f using Expr.casesOn with
  |Name x q=>
   induction as using lc with
   |cons a r=>rfl
   |nil=>
    induction ks using lc with
    |cons a r=>rfl
    |nil=>exact Bool.noConfusion h
  |_=>rfl
 |_=>rfl
theorem cO (he:∀e st,Au AB w A AA (eval e AA) st (ih.v (.ev e) st)) {o:Expr}:Au AB w A AA (eval (.Attribute o a pos) AA) st (Ih.v (step ih) (.ev (.Attribute o a pos)) st):=by
 intro φ ρ Z s E Q H N
 rw [SJ] at N
 by_cases hb:DK o=true
 .rw [ak hb] at N
  rw [PySem.arm_eval_Attribute,Rc hb]
  refine ah ((he o st).BH H N fun ov AL ro AY Ad AH AO vo H1 Ah N1=>ah (wpAny_standAt (ah (bh (b9 (UC ov a true ro AY Ad Z AL {s with heap:=AH,toks:=AO} E _ H1 vo N1) (fun r BX hq=>ah (wpAny_letTemporaryGo (aq hq))) fun _ _ e=>e)))))
 .rw [aj hb] at N;exact N.Bd.elim
theorem l5 {f:Nat} {r:List (Str × Nat)}:GK x ((y,f)::r)=if y==x then some f else GK x r:=rfl
set_option tactic.hygienic true in
theorem l7 {nm:Str} {f:Nat} (h:GK nm methods=some f) (P:Params) :
  findIn (KK P) (.ref 178) nm=some (some (.ref (DC f)))/\isFn (KK P) (.ref (DC f))=true/\keepIn (KK P) (.ref (DC f))=true/\fnIn (KK P) (DC f)=true/\
   specialIn (KK P) (.ref (DC f)) "__get__" = some (some (.builtin "function.__get__"))/\takesIn (KK P) (.ref (DC f))=some false/\copiedNames.contains nm=false/\f≠1002:=by
 unfold methods at h
 repeat (rw [l5] at h;split at h;· (rename_i q;obtain rfl:=aa h;rw [<-eq_of_beq q];exact ⟨by kernel_rfl,by kernel_rfl,by kernel_rfl,by kernel_rfl,by kernel_rfl,by kernel_rfl,by kernel_rfl,by decide⟩))
 cases h
theorem tw (P:Params):findIn (KK P) (.ref 178) "__getattribute__" = some (some (.builtin "object.__getattribute__"))/\findIn (KK P) (.ref 178) "__getattr__" = some none:=⟨by kernel_rfl,by kernel_rfl⟩
theorem lB {o:Obj} {nm:Str} (hd:o.data = .dict es n) (hk:StrKeys es) (hf:nsFind es nm=none):lookIn nm o=some none:=by
 unfold lookIn
 rw [hd]
 dsimp only
 have hf:(es.toList.find? (·.key.isStr nm))=none:=by
  unfold nsFind findBy at hf
  rw [Option.map_eq_none_iff] at hf
  obtain ⟨l⟩:=es
  simpa using hf
 rw [hf]
 have:es.toList.any (·.refKey)=false:=by
  rw [List.any_eq_false]
  intro x hx
  obtain ⟨k,t,e⟩:=hk x (Array.mem_toList_iff.mp hx)
  unfold DictEntry.refKey
  rw [e]
  exact Bool.false_ne_true
 rw [this]
 rfl
theorem iY (H:AK AB w A AA Z φ ρ st h) {l:Loc} (e:st.hp[i]? = some (.inst l)) (hp:ρ[i]? = some p) {nm:Str} (hn:AN nm l=none) :
  ∃ox od,InstAt h p.1 ox 178 (some od)/\lookIn nm od=some none:=by
 obtain ⟨n,d,m,e1,e2,e3,r,CJ,I⟩:=PO H e hp
 obtain ⟨od,es,ep,q1,q2,q3,q4,q5⟩:=e3
 refine ⟨_,od,⟨e2,rfl,rfl,q1⟩,lB q2 q3 ?_⟩
 have:=r nm
 rw [hn] at this
 rw [q5]
 induction q:m nm using oc with
 |none=>rfl
 |some v=>rw [q] at this;exact this.elim
set_option backward.match.sparseCases true in
def GY (AB:Program) (w:World) (A:Around) (AA:Env) (ih:Ih):Prop:=∀(f:Nat) (as:List V) (vs:List Value) (φ:Fz) (ρ:AZ) (Z:List Addr) (st:S) (s:Shared) (Q:Value->Shared->Prop) (E:Value->Shared->Prop),f≠1002->
 AK AB w A AA Z φ ρ st s.heap->AV w.params φ ρ vs as->As AB w A AA Z φ ρ st s (ih.v (.call f as) st) Q E->
 codeAny (model AB w) A (.call (.ref (DC f)) ⟨vs,[]⟩) (fun r s'=>match r with | .ok (.ret v)=>Q v s' | .ok _=>False | .error e=>E e s') s
theorem Ug {as:List Expr} (h:as.all (fun e=>!Bk e)=true):(backTo pos (starEach as AA)).all (fun x=>!x.1)=true:=by
 induction as with
 |nil=>rfl
 |cons e r ih=>
  simp only [List.all_cons,Bool.and_eq_true,Bool.not_eq_true'] at h
  rw [GV h.1]
  have:=ih h.2
  unfold backTo at this ⊢
  simp only [bq,List.all_cons,Bool.and_eq_true]
  exact ⟨rfl,this⟩
theorem uW {as:List Expr} (h:as.all (fun e=>!Bk e)=false):(backTo pos (starEach as AA)).all (fun x=>!x.1)=false:=by
 induction as with
 |nil=>exact Bool.noConfusion h
 |cons e r ih=>
  induction he:Bk e using bc with
  |true=>
   obtain ⟨e,p,rfl⟩:=LS he
   rw [arm_starEach_Starred];rfl
  |false=>
   simp only [List.all_cons,he,Bool.not_false,Bool.true_and] at h
   rw [GV he]
   have:=ih h
   unfold backTo at this ⊢
   simp only [bq,List.all_cons]
   rw [this]
   simp
theorem OY {as:List Expr}:methodCallForm (as.length+([]:List Keyword).length) (backTo pos (starEach as AA)) (backToKw pos (keywordEach [] AA))=DW as:=by
 unfold methodCallForm DW
 show ((backTo pos (starEach as AA)).all (fun x=>!x.1)&&true&&decide (as.length+0+0<30))=_
 induction h:(as.all (fun e=>!Bk e)) using bc with
 |true=>rw [Ug h];simp
 |false=>rw [uW h];simp
theorem Lp {o:Expr} {nm:Str} {as:List Expr}:Gi ih o nm as=AD (ih.v (.ev o)) (HV ih nm as):=rfl
theorem EP {f:Expr} {as:List Expr} {ks:List Keyword}:Ih.v (step ih) (.ev (.Call f as ks pos))=if ks.isEmpty then Dy ih f as pos else AG:=by
 exact Cy (JU rfl)
def KN (AB:Program) (w:World) (A:Around) (AA:Env) (ih:Ih):Prop:=∀(o:Expr) (apos pos lp:Pos) (las:Arguments) (lb e:Expr) (lsc:Scope) (φ:Fz) (ρ:AZ) (Z:List Addr) (st:S) (s:Shared) (Q:Value->Shared->Prop) (E:Value->Shared->Prop),
 GH st.sc=true->(MS las lsc && !Bk e)=true->(apos.endLine==pos.line)=true->AK AB w A AA Z φ ρ st s.heap->As AB w A AA Z φ ρ st s (AD (ih.v (.ev e)) Jr st) Q E->
 wpAny (model AB w) A (methodCall o "sub" apos pos AA (.ref 43) 2 (backTo pos (starEach [.Lambda las lb lsc lp,e] AA)) []) Q E s
theorem Kg {o:Expr} {b:Bool} (h:(apos.endLine==pos.line)=true):methodCallPos b o AA apos pos=pure pos:=by
 unfold methodCallPos
 rw [h]
 simp
theorem UL {M:Model} {id:String}:∃k,Looks M h (keeperOf (.builtin id)) k:=⟨.machine,Looks.of_pure rfl⟩
theorem bB {nm:Str} {f:Addr} (m1:findIn (KK P) (.ref 178) nm=some (some (.ref f))) (m5:specialIn (KK P) (.ref f) "__get__" = some (some (.builtin "function.__get__"))) (m6:takesIn (KK P) (.ref f)=some false)
  (m7:copiedNames.contains nm=false) (MN:lookIn nm od=some none):findObj (KK P) 178 (some od) nm=some (.bind (.builtin "function.__get__") (.ref f)):=by
 have hh:hasDictIn (KK P) 178=true:=by kernel_rfl
 obtain ⟨cd,hc,hd⟩:=any_some hh
 have ho:W.ownOf cd (some od) nm=some none:=by unfold W.ownOf;rw [ak hd];exact MN
 exact Option.bind_eq_some_iff.mpr ⟨cd,hc,Option.bind_eq_some_iff.mpr ⟨_,m1,Option.bind_eq_some_iff.mpr ⟨_,m5,Option.bind_eq_some_iff.mpr ⟨_,m6,Option.bind_eq_some_iff.mpr ⟨_,ho,aj fun q=>Bool.noConfusion (m7.symm.trans (Bool.and_eq_true_iff.mp q).1)⟩⟩⟩⟩⟩
end
section
open PySem PySem.W PyProof.Rows PySem.Calls PySem.SeqAt
variable {AB:Program} {w:World} {A:Around} {AA:Env} {Z:List Addr} {φ AE AY:Fz} {ρ ρ' Ad:AZ} {st st' AL:S} {h h' Ax AH:Heap} {s:Shared} {AO i:Nat} {E Q:Value->Shared->Prop} {ih:Ih} {o:Expr} {nm x:Str} {apos pos:Pos} {as:List Expr} {ro self:Value} {f:List V->M V} {p:Addr × Option Addr} {ob:O} {l:Loc} {ov:V}
theorem UT (he:∀e st,Au AB w A AA (eval e AA) st (ih.v (.ev e) st)) (H:AK AB w A AA Z φ ρ st s.heap) {id:String} (N:As AB w A AA Z φ ρ st s (AD (BG ih as) f st) Q E)
  (k:∀l st2 vs Ab Ae AR Aw,AV w.params Ab Ae vs l->AK AB w A AA Z Ab Ae st2 AR->Al AB w A AA Z φ ρ st s.heap Ab Ae st2 AR->As AB w A AA Z Ab Ae st2 {s with heap:=AR,toks:=Aw} (f l st2) Q E->wpAny (model AB w) A (call (.builtin id) (self::vs)) Q E {s with heap:=AR,toks:=Aw}) :
  wpAny (model AB w) A (callWith pos (.builtin id) [self] (backTo pos (starEach as AA)) []) Q E s:=
 KV ((Ko he as st).BH H N fun l st2 a Ab Ae AR Aw va H2 AW N2=>⟨UL,va.1,k l st2 a.pos Ab Ae AR Aw va.2 H2 AW N2⟩)
theorem tO:EI "" = none:=by unfold EI;rw [aj (by decide),aj (by decide),aj (by decide)]
theorem mQ (o:O):CF o "" = none:=by
 induction o using O.casesOn with
 |list l=>show Gy "" = none;unfold Gy;rw [aj (by decide),aj (by decide),aj (by decide),aj (by decide)]
 |dict l cl=>show IT "" = none;unfold IT;rw [aj (by decide),aj (by decide)]
 |set l=>show setKind "" = none;unfold setKind;rw [aj (by decide)]
 |_=>rfl
theorem uY (he:∀e st,Au AB w A AA (eval e AA) st (ih.v (.ev e) st)) (hl:(apos.endLine==pos.line)=true) (H:AK AB w A AA Z φ ρ st s.heap) (vo:VR w.params φ ρ ro (.str x)) (N:As AB w A AA Z φ ρ st s (WA ih x nm as st) Q E) :
  wpAny (model AB w) A (methodCall o nm apos pos AA ro (as.length+([]:List Keyword).length) (backTo pos (starEach as AA)) (backToKw pos (keywordEach [] AA))) Q E s:=by
 obtain ⟨_,e⟩:=N.get
 obtain ⟨hq,e'⟩:=CE (show (if DW as/\(EI (Cc nm)).isSome=true then AD (BG ih as) (fun l=>E7 x (Cc nm) l) else AG) st=_ from e)
 have M:=N.cast (e.trans e'.symm)
 clear N e e'
 obtain ⟨id,Ov⟩:=Option.isSome_iff_exists.mp hq.2
 have hx:=vo.I6
 obtain ⟨t,rfl⟩:=vo.Bw
 have CJ:Cc nm≠"":=fun z=>G1 (tO.symm.trans (z ▸ Ov))
 have K:=tR Ov
 rw [<-(UX rfl CJ).1] at K
 unfold methodCall calleeOf
 rw [OY,hq.1,Kg hl]
 refine ah (bh (getMethod_builtin (typeIs_str _ x t) K.plain K.slot K.ty (fun a z=>by cases z) (ah (aq ?_))))
 refine UT he H M fun l st2 vs Ab Ae AR Aw vl H2 AW N2=>?_
 obtain ⟨Tc,e',hw⟩:=kN (t:=t) (s:={s with heap:=AR,toks:=Aw}) H2 hx vl N2
 rw [Be Ov e']
 exact hw
theorem uq (hs:KN AB w A AA ih) (hl:(apos.endLine==pos.line)=true) (H:AK AB w A AA Z φ ρ st s.heap) (vo:VR w.params φ ρ ro (.glob 43)) (N:As AB w A AA Z φ ρ st s (J1 ih nm as st) Q E) :
  wpAny (model AB w) A (methodCall o nm apos pos AA ro (as.length+([]:List Keyword).length) (backTo pos (starEach as AA)) (backToKw pos (keywordEach [] AA))) Q E s:=by
 obtain ⟨_,e⟩:=N.get
 obtain ⟨q,_,e1,_,e2⟩:=EM e
 obtain ⟨g,_,e3,_,e4⟩:=EM e2
 obtain ⟨hq,e5⟩:=Cu e4
 have M:=N.cast (e.trans e5.symm)
 clear N e e2 e4 e5
 obtain rfl:=NO e1
 rw [vo.Ib,jQ e3,eq_of_beq hq.1]
 exact hs o apos pos _ _ _ _ _ φ ρ Z st s Q E hq.2.1 hq.2.2 hl H M
theorem nv (he:∀e st,Au AB w A AA (eval e AA) st (ih.v (.ev e) st)) (hl:(apos.endLine==pos.line)=true) (H:AK AB w A AA Z φ ρ st s.heap) (ho:st.hp[i]? = some ob) (hp:ρ[i]? = some p) (hr:ro = .ref p.1) (N:As AB w A AA Z φ ρ st s (Fe ih i ob nm as st) Q E) :
  wpAny (model AB w) A (methodCall o nm apos pos AA ro (as.length+([]:List Keyword).length) (backTo pos (starEach as AA)) (backToKw pos (keywordEach [] AA))) Q E s:=by
 subst hr
 unfold Fe at N
 induction hm:CF ob (Cc nm) using oc with
 |none=>rw [hm] at N;exact N.Bd.elim
 |some q=>
  rw [hm] at N
  obtain ⟨T,id⟩:=q
  by_cases hq:DW as=true
  .have M:=N.cast (congrFun (ak hq) st)
   clear N
   have CJ:Cc nm≠"":=fun z=>G1 ((mQ ob).symm.trans (z ▸ hm))
   have K:=mS hm
   obtain ⟨e,gO⟩:=UX rfl CJ
   rw [<-e] at K
   obtain ⟨od,b1,b2,b3⟩:=mR hm (H.rel.ob _ _ _ ho hp)
   unfold methodCall calleeOf
   rw [OY,hq,Kg hl]
   refine ah (bh (getMethod_builtin ⟨od,b1,b2⟩ K.plain K.slot K.ty (fun a z=>by cases z;exact ⟨od,b1,b3⟩) (ah (aq ?_))))
   refine UT he H M fun l st2 vs Ab Ae AR Aw vl H2 AW N2=>?_
   have N2:As AB w A AA Z Ab Ae st2 _ (AD (A4 i) (fun o=>if CF o (Cc nm)=some (T,id) then method i (Cc nm) l else AG) st2) Q E:=N2
   obtain ⟨nu,gq,N3⟩:=N2.obj
   by_cases JR:CF nu (Cc nm)=some (T,id)
   .obtain ⟨T',Tc,e',hw⟩:=kD (s:={s with heap:=AR,toks:=Aw}) H2 gq (AW.ext.pf.get hp) gO vl (N3.cast (congrFun (ak JR) st2))
    have e2:=congrArg Prod.snd (Be JR e')
    rw [show id=Tc from e2]
    exact hw
   .exact (N3.ne (congrFun (aj JR) st2)).elim
  .exact (N.ne (congrFun (aj hq) st)).elim
theorem iW {o:Out V} (h:EX ih i l nm as st=some o):∃f,AN nm l=none/\GK nm methods=some f/\EX ih i l nm as=AD (BG ih as) fun l=>ih.v (.call f (.ref i::l)):=by
 unfold EX at h ⊢
 induction hg:AN nm l using oc with
 |some x=>rw [hg] at h;exact nn h
 |none=>
  rw [hg] at h
  dsimp only at h
  induction hm:GK nm methods using oc with
  |none=>rw [hm] at h;exact nn h
  |some f=>exact ⟨f,rfl,rfl,rfl⟩
theorem iX (he:∀e st,Au AB w A AA (eval e AA) st (ih.v (.ev e) st)) (hc:GY AB w A AA ih) (hl:(apos.endLine==pos.line)=true) (H:AK AB w A AA Z φ ρ st s.heap) (ho:st.hp[i]? = some (.inst l)) (hp:ρ[i]? = some p) (hr:ro = .ref p.1) (N:As AB w A AA Z φ ρ st s (EX ih i l nm as st) Q E) :
  wpAny (model AB w) A (methodCall o nm apos pos AA ro (as.length+([]:List Keyword).length) (backTo pos (starEach as AA)) (backToKw pos (keywordEach [] AA))) Q E s:=by
 subst hr
 obtain ⟨_,e⟩:=N.get
 obtain ⟨f,hg,hm,e'⟩:=iW e
 have M:=N.cast (congrFun e' st)
 clear N e e'
 obtain ⟨ox,od,I,MN⟩:=iY H ho hp hg
 obtain ⟨m1,m2,m3,m4,m5,m6,m7,m8⟩:=l7 hm w.params
 obtain ⟨g1,g2⟩:=tw w.params
 have UO:=beq_iff_eq.mp m2
 have call:=fun l st2 (a:PySem.Args) Ab Ae AR Aw (va:AV w.params Ab Ae a.pos l) H2 (AW:Al AB w A AA Z φ ρ st s.heap Ab Ae st2 AR) N3=>hc f (.ref i::l) (.ref p.1::a.pos) Ab Ae Z st2 {s with heap:=AR,toks:=Aw} Q E m8 H2 (.cons (.ref (AW.ext.pf.get hp)) va) N3
 unfold methodCall calleeOf
 rw [OY]
 induction hq:DW as using bc with
 |true=>
  rw [Kg hl]
  refine ah (bh (method_fn H.CR I g1 g2 m1 UO (by show (lookIn nm od).map _=_;rw [MN];rfl) (ah (aq ?_))))
  refine KV ((Ko he as st).BH H M fun l st2 a Ab Ae AR Aw va H2 AW N3=>?_)
  obtain ⟨k,_,L⟩:=looks_keep (M:=model AB w) m3 H2.CR
  exact ⟨⟨k,L⟩,va.1,wpAny_call (call l st2 a Ab Ae AR Aw va.2 H2 AW N3)⟩
 |false=>
  rw [Kg hl]
  refine ah (bh (ah (get_bind H.CR I g1 (bB (od:=od) m1 m5 m6 m7 MN) g2 (wpAny_call (fn_get (s:={s with toks:=s.toks+1}) H.CR UO ?_)))))
  have k:∀b o,s.heap.get? b=some o->(s.heap.push (methodObj (.ref (DC f)) (.ref p.1))).get? b=some o:=fun b o e=>bf _ e
  have p0:=H.grow k
  have H0:=H.after p0
  have hD:=EE s.heap
  have MC:(s.heap.push (methodObj (.ref (DC f)) (.ref p.1))).get? s.heap.objs.size=some (methodObj (.ref (DC f)) (.ref p.1)):=au _ rfl
  refine (show wpAny _ _ (handedOut (.ref _)) _ _ _ from aq (aq (ah (aq ?_))))
  refine KV ((Ko he as st).BH (s:={s with heap:=s.heap.push (methodObj (.ref (DC f)) (.ref p.1)),toks:=s.toks+1}) H0 (M.after p0 (s.toks+1)) fun l st2 a Ab Ae AR Aw va H2 AW N3=>?_)
  have hz:s.heap.objs.size∉Z:=fun m=>(H.er.zr _ m).2.2 hD
  have JR:=(AW.ext.keep _ _ MC (fun m=>H.rel.th _ m hD) hz).exact (fun es n z=>by cases z)
  obtain ⟨kk,_,L⟩:=keeps_M (M:=model AB w) m4 AR ⟨JR,H2.CR⟩
  exact ⟨⟨kk,L⟩,va.1,wpAny_call (method_call (s:={s with heap:=AR,toks:=Aw}) JR (call l st2 a Ab Ae AR Aw va.2 H2 (p0.trans AW) N3))⟩
theorem Y6 (he:∀e st,Au AB w A AA (eval e AA) st (ih.v (.ev e) st)) (hc:GY AB w A AA ih) (hs:KN AB w A AA ih) (hl:(apos.endLine==pos.line)=true) (H:AK AB w A AA Z φ ρ st s.heap) (vo:VR w.params φ ρ ro ov) (N:As AB w A AA Z φ ρ st s (HV ih nm as ov st) Q E) :
  wpAny (model AB w) A (methodCall o nm apos pos AA ro (as.length+([]:List Keyword).length) (backTo pos (starEach as AA)) (backToKw pos (keywordEach [] AA))) Q E s:=by
 obtain ⟨r,e⟩:=N.get
 have k:(∃x,ov = .str x)\/(ov = .glob 43)\/∃i,ov = .ref i:=by
  induction ov using V.casesOn with
  |str x=>exact .inl ⟨x,rfl⟩
  |glob a=>exact .inr (.inl (by rw [(CE (show (if a=43 then J1 ih nm as else AG) st=_ from e)).1]))
  |ref i=>exact .inr (.inr ⟨i,rfl⟩)
  |_=>exact nn e
 clear e
 rcases k with ⟨x,rfl⟩ | rfl | ⟨i,rfl⟩
 .exact uY he hl H vo N
 .exact uq hs hl H vo (N.cast (congrFun (show HV ih nm as (.glob 43)=J1 ih nm as by unfold HV;dsimp only;rw [ak rfl]) st))
 .obtain ⟨p,hp,hr⟩:=vo.C8
  obtain ⟨ob,ho,N⟩:=Ar.obj (f:=fun o=>match o with | .inst l=>EX ih i l nm as | o=>Fe ih i o nm as) N
  by_cases hi:∃l,ob = .inst l
  .obtain ⟨l,rfl⟩:=hi
   exact iX he hc hl H ho hp hr N
  .refine nv he hl H ho hp hr (N.cast ?_)
   induction ob using O.casesOn with
   |inst l=>exact absurd ⟨l,rfl⟩ hi
   |_=>rfl
end
section
open PySem PySem.W PyProof.Rows PySem.Calls PySem.SeqAt
variable {AB:Program} {w:World} {A A':Around} {AA Ls cenv A3:Env} {Z Z' Zc:List Addr} {φ AE AY BS Ab B9:Fz} {ρ ρ' Ad Ae B8:AZ} {st st' AL st2 CH:S} {h h' Ax AH AS AR BE:Heap} {s BX:Shared} {AO n k f i d lo j:Nat} {E Q:Value->Shared->Prop} {ih:Ih} {P:Params} {BF rf v rx:Value} {it D b a:Addr} {Ai fv v' u:V} {kd:Bool} {AM:List V} {α β:Type} {o:Option (Out (List V))} {apos pos spos py:Pos} {ks:List Keyword} {vs us:List Value} {p:Addr × Option Addr} {xs:Array Value} {es:Array DictEntry} {t:Tok} {x y:Str} {bs:List (Str × Value)} {l:Loc} {names r:List (Str × NameKind)} {fn:Fn} {fd:FuncData} {fr:List Env} {t':T} {fl:Flow} {e c:Option Expr} {q:(Str × Pos) × List Expr} {scope sc:Scope} {cl:List (Str × Addr)} {iter Am target:Expr} {asy:Int} {Ak:List Expr} {R:Result->Shared->Prop} {use:Option (Value->Sem Unit)} {K:Addr->Addr->Shared->Prop} {g:α->M (List V)} {m:M α} {C:Fz->AZ->β->α->Prop}
theorem c8 (he:∀e st,Au AB w A AA (eval e AA) st (ih.v (.ev e) st)) (hc:GY AB w A AA ih) (hs:KN AB w A AA ih) {o:Expr} {nm:Str} {as:List Expr} :
  Au AB w A AA (eval (.Call (.Attribute o nm apos) as ks pos) AA) st (Ih.v (step ih) (.ev (.Call (.Attribute o nm apos) as ks pos)) st):=by
 intro φ ρ Z s E Q H N
 rw [EP] at N
 induction ks using lc with
 |cons k r=>exact (N.ne rfl).elim
 |nil=>
 have N:As AB w A AA Z φ ρ st s ((if DK o&&apos.endLine==pos.line then Gi ih o nm as else AG) st) Q E:=N
 by_cases hb:(DK o&&apos.endLine==pos.line)=true
 .rw [ak hb] at N
  obtain ⟨hb,hl⟩:=Bool.and_eq_true_iff.mp hb
  rw [PySem.arm_eval_Call,Rc hb]
  exact ah ((he o st).BH H (f:=HV ih nm as) N fun ov AL ro AY Ad AH AO vo H1 Ah N1=>ah (wpAny_standAt (Y6 he hc hs hl (s:={s with heap:=AH,toks:=AO}) H1 vo N1)))
 .rw [aj hb] at N;exact N.Bd.elim
def KJ (AB:Program) (w:World) (A:Around) (AA:Env) (ih:Ih):Prop:=∀(φ:Fz) (ρ:AZ) (Z:List Addr) (st:S) (s:Shared) (Q:Value->Shared->Prop) (E:Value->Shared->Prop),
 AK AB w A AA Z φ ρ st s.heap->As AB w A AA Z φ ρ st s (LA ih st) Q E->wpAny (model AB w) A (call (.ref 178) []) Q E s
def NZ (AB:Program) (w:World) (A:Around) (AA:Env) (ih:Ih):Prop:=∀(as:List V) (vs:List Value) (φ:Fz) (ρ:AZ) (Z:List Addr) (st:S) (s:Shared) (Q:Value->Shared->Prop) (E:Value->Shared->Prop),
 AK AB w A AA Z φ ρ st s.heap->AV w.params φ ρ vs as->As AB w A AA Z φ ρ st s (newNode ih as st) Q E->wpAny (model AB w) A (call (.ref 81) vs) Q E s
theorem cJ (h:JQ.contains f=true):f∈JQ:=List.contains_iff_mem.mp h
theorem S4 (h:JQ.contains f=true) (P:Params):DC f=f/\f≠1002/\keepIn (KK P) (.ref f)=true:=by
 have:=cJ h
 simp only [JQ,List.mem_cons,List.not_mem_nil,or_false] at this
 rcases this with rfl | rfl | rfl | rfl | rfl | rfl | rfl | rfl | rfl | rfl | rfl
 all_goals exact ⟨rfl,by decide,by kernel_rfl⟩
theorem S3 {a:Nat} {as:List V} {o:Out V} (h:Gn ih a as st=some o):(a=178/\as=[]/\Gn ih a as=LA ih)\/(a=81/\Gn ih a as=newNode ih as)\/(JQ.contains a=true/\Gn ih a as=ih.v (.call a as)):=by
 unfold Gn at h ⊢
 by_cases h1:a=178
 .rw [ak h1] at h ⊢
  obtain ⟨c,_⟩:=CE h
  exact .inl ⟨h1,List.isEmpty_iff.mp c,ak c⟩
 rw [aj h1] at h ⊢
 by_cases h2:a=81
 .exact .inr (.inl ⟨h2,ak h2⟩)
 rw [aj h2] at h ⊢
 obtain ⟨c,_⟩:=CE h
 exact .inr (.inr ⟨c,ak c⟩)
theorem Rl {f:V} {as:List V} {o:Out V} (h:FG ih f as st=some o):(∃id,f = .bi id)\/(∃n,f = .ty n)\/(∃a,f = .glob a)\/∃nm i,f = .bm nm i:=by
 induction f using V.casesOn with
 |bi id=>exact .inl ⟨id,rfl⟩
 |ty n=>exact .inr (.inl ⟨n,rfl⟩)
 |glob a=>exact .inr (.inr (.inl ⟨a,rfl⟩))
 |bm nm i=>exact .inr (.inr (.inr ⟨nm,i,rfl⟩))
 |_=>exact nn h
theorem lC {M:Model} {rv:Value} {v:V} {as:List V} (H:AK AB w A AA Z φ ρ st h) (hv:VR w.params φ ρ rv v) (hn:FG ih v as st≠none):∃k,Looks M h (keeperOf rv) k:=by
 have keep:∀{a},keepIn (KK w.params) (.ref a)=true->∃k,Looks M h (keeperOf (.ref a)) k:=fun e=>let ⟨k,_,L⟩:=looks_keep (M:=M) e H.CR;⟨k,L⟩
 obtain ⟨o,e⟩:=Option.ne_none_iff_exists'.mp hn
 rcases Rl e with ⟨id,rfl⟩ | ⟨n,rfl⟩ | ⟨a,rfl⟩ | ⟨nm,i,rfl⟩
 .rw [hv.Nl];exact ⟨.machine,Looks.of_pure rfl⟩
 .rw [hv.I9];exact ⟨.machine,Looks.of_pure rfl⟩
 .rw [hv.Ib]
  rcases S3 (ih:=ih) (as:=as) e with ⟨rfl,_⟩ | ⟨rfl,_⟩ | ⟨h4,_⟩
  .exact keep (by kernel_rfl)
  .exact keep (by kernel_rfl)
  .exact keep (S4 h4 _).2.2
 .rcases hv.Nm with ⟨_,a,b,hf,_,rfl⟩ | ⟨_,a,b,hf,_,rfl⟩
  .exact ⟨.machine,(Looks.ld (part:=none) (H.rel.fz _ _ hf)).andThen .now⟩
  .exact ⟨.machine,(Looks.ld (part:=none) (H.rel.fz _ _ hf)).andThen .now⟩
theorem jq (hc:GY AB w A AA ih) (hS:KJ AB w A AA ih) (hN:NZ AB w A AA ih) {as:List V}
  (H:AK AB w A AA Z φ ρ st s.heap) (hv:VR w.params φ ρ rf fv) (vl:AV w.params φ ρ vs as) (N:As AB w A AA Z φ ρ st s (FG ih fv as st) Q E):wpAny (model AB w) A (call rf vs) Q E s:=by
 obtain ⟨o,e⟩:=N.get
 rcases Rl e with ⟨id,rfl⟩ | ⟨n,rfl⟩ | ⟨a,rfl⟩ | ⟨nm,i,rfl⟩
 .rw [hv.Nl];exact jm H vl N
 .rw [hv.I9];exact kQ H vl N
 .rw [hv.Ib]
  have N:As AB w A AA Z φ ρ st s (Gn ih a as st) Q E:=N
  rcases S3 (ih:=ih) (as:=as) e with ⟨rfl,rfl,e'⟩ | ⟨rfl,e'⟩ | ⟨h4,e'⟩
  .rw [vl.zero];exact hS φ ρ Z st s Q E H (N.cast (congrFun e' st))
  .exact hN as vs φ ρ Z st s Q E H vl (N.cast (congrFun e' st))
  .obtain ⟨f1,f2,_⟩:=S4 h4 w.params
   have:=hc a as vs φ ρ Z st s Q E f2 H vl (N.cast (congrFun e' st))
   rw [f1] at this
   exact wpAny_call this
 .exact jl H hv vl N
noncomputable def GI:Expr->Bool
 | .Attribute ..=>true
 |_=>false
theorem Yk {f:Expr} {as:List Expr} (h:GI f=false):eval (.Call f as [] pos) AA=(do let v <- eval f AA;callWith pos v [] (backTo pos (starEach as AA)) []):=by
 induction f using Expr.casesOn <;> first | rfl | exact Bool.noConfusion (h:true=false)
theorem HU {f:Expr} {as:List Expr} (h:GI f=false):Dy ih f as pos=AD (ih.v (.ev f)) fun fv=>AD (BG ih as) fun l=>FG ih fv l:=by
 induction f using Expr.casesOn <;> first | rfl | exact Bool.noConfusion (h:true=false)
theorem cT (he:∀e st,Au AB w A AA (eval e AA) st (ih.v (.ev e) st)) (hc:GY AB w A AA ih) (hs:KN AB w A AA ih) (hS:KJ AB w A AA ih) (hN:NZ AB w A AA ih)
  {f:Expr} {as:List Expr}:Au AB w A AA (eval (.Call f as ks pos) AA) st (Ih.v (step ih) (.ev (.Call f as ks pos)) st):=by
 induction hf:GI f using bc with
 |true=>
  induction f using Expr.casesOn with
  |Attribute o nm apos=>exact c8 he hc hs
  |_=>exact Bool.noConfusion hf
 |false=>
  intro φ ρ Z s E Q H N
  rw [EP] at N
  induction ks using lc with
  |cons k r=>exact (N.ne rfl).elim
  |nil=>
   have N:As AB w A AA Z φ ρ st s (Dy ih f as pos st) Q E:=N
   rw [HU hf] at N
   rw [Yk hf]
   refine ah ((he f st).BH H N fun fv AL rf AY Ad AH AO vf H1 Ah N1=>?_)
   refine KV ((Ko he as AL).BH (s:={s with heap:=AH,toks:=AO}) H1 N1 fun l st2 a Ab Ae AR Aw va H2 AW N2=>?_)
   have Wf:=vf.mono AW.ext.le AW.ext.pf
   exact ⟨lC H2 Wf N2.ne,va.1,jq hc hS hN (s:={s with heap:=AR,toks:=Aw}) H2 Wf va.2 N2⟩
theorem VR.YI {nm:String} (h:VR P φ ρ v (.bm nm i)):∃b,ρ[i]? = some (b,Option.none):=by
 rcases h.Nm with ⟨_,_,b,_,hi,_⟩ | ⟨_,_,b,_,hi,_⟩ <;> exact ⟨b,hi⟩
theorem OA (q:Pf ρ ρ') (h:ρ'[i]? = some p) (AS:VR P BS ρ BF (.ref i)):VR P AE ρ (.ref p.1) (.ref i):=by
 obtain ⟨p',e,_⟩:=AS.C8
 rw [Be h (q.get e)]
 exact .ref e
theorem JI (q:Pf ρ ρ') {nm:String} (h:ρ'[i]? = some (b,none)) (AS:VR P BS ρ BF (.bm nm i)):ρ[i]? = some (b,none):=by
 obtain ⟨b',e⟩:=AS.YI
 rw [Be h (q.get e)]
 exact e
theorem OC (q:Pf ρ ρ') (f:AE a=some {cls:=.type "dict_values",data:=.fields #[.ref b]}) (h:ρ'[i]? = some (b,.none)) (AS:VR P BS ρ BF (.vals i)):VR P AE ρ (.ref a) (.vals i):=by
 obtain ⟨_,b',_,e,_⟩:=AS.Qv
 exact .vals f (by rw [Be h (q.get e)];exact e)
theorem N9 {l:List V} (h:AE a=some (Ba xs n)) (hn:l.length<=1000) (ih:∀BF,AV P BS ρ BF l->AV P AE ρ xs.toList l) (AS:VR P BS ρ BF (.lst l)):VR P AE ρ (.ref a) (.lst l):=by
 obtain ⟨_,_,_,_,r,_⟩:=AS.Fb
 exact .lst h (ih _ r) hn
theorem OB {l:List V} (h:AE a=some (E8 xs n)) (hn:l.length<=1000) (ih:∀BF,AV P BS ρ BF l->AV P AE ρ xs.toList l) (AS:VR P BS ρ BF (.tup l)):VR P AE ρ (.ref a) (.tup l):=by
 obtain ⟨_,_,_,_,r,_⟩:=AS.E9
 exact .tup h (ih _ r) hn
theorem N8 {o:Obj} {l:List (Str × V)} (h:AE a=some o) (hc:o.cls = .type "dict") (hd:o.data = .dict es n) (ih:∀BF,Az P BS ρ BF l->Az P AE ρ es.toList l) (AS:VR P BS ρ BF (.dct l)):VR P AE ρ (.ref a) (.dct l):=by
 obtain ⟨_,_,_,_,_,_,_,r,_⟩:=AS.R2
 exact .dct h hc hd (ih _ r)
theorem Nz {x:V} {xs:List V} (a:∀BF,VR P BS ρ BF x->VR P AE ρ v x) (b:∀BF,AV P BS ρ BF xs->AV P AE ρ vs xs) (AS:AV P BS ρ us (x::xs)):AV P AE ρ (v::vs) (x::xs):=by
 obtain ⟨_,_,h,t,_⟩:=AS.Bx
 exact .cons (a _ h) (b _ t)
theorem N5 {x:V} {k:Str} {vs us:List DictEntry} {xs:List (Str × V)} (hk:k.length<=1000) (a:∀BF,VR P BS ρ BF x->VR P AE ρ v x) (b:∀BF,Az P BS ρ BF xs->Az P AE ρ vs xs) (AS:Az P BS ρ us ((k,x)::xs)) :
  Az P AE ρ (⟨PyData.keyHash P k,.str k t,v⟩::vs) ((k,x)::xs):=by
 obtain ⟨_,_,_,_,h,t,_⟩:=AS.Bx
 exact .cons hk (a _ h) (b _ t)
theorem VR.cut (q:Pf ρ ρ') {x:V} (AS:VR P BS ρ BF x) (h:VR P AE ρ' v x):VR P AE ρ v x:=
 VR.rec (motive_1:=fun v x _=>∀BF,VR P BS ρ BF x->VR P AE ρ v x) (motive_2:=fun v x _=>∀BF,AV P BS ρ BF x->AV P AE ρ v x) (motive_3:=fun v x _=>∀BF,Az P BS ρ BF x->Az P AE ρ v x)
  (fun _ _=>.none) (fun b _ _=>.bool b) (fun i t _ _=>.int i t) (fun s t h _ _=>.str s t h) (fun h _ AS=>OA q h AS) (fun h _ hn ih _ AS=>N9 h hn ih AS) (fun h _ hn ih _ AS=>OB h hn ih AS) (fun h hc hd _ ih _ AS=>N8 h hc hd ih AS)
  (fun h hn _ _=>.rng h hn) (fun h hi _ AS=>OC q h hi AS) (fun a _ _=>.glob a) (fun id h _ _=>.bi id h) (fun n _ _=>.ty n) (fun h hi _ AS=>.app h (JI q hi AS)) (fun h hi _ AS=>.nxt h (JI q hi AS))
  (fun _ _=>.nil) (fun _ _ a b _ AS=>Nz a b AS) (fun _ _=>.nil) (fun hk _ _ a b _ AS=>N5 hk a b AS) h BF AS
theorem AV.cut (q:Pf ρ ρ') {v BF:List Value} {x:List V} (AS:AV P BS ρ BF x) (h:AV P AE ρ' v x):AV P AE ρ v x:=
 AV.rec (motive_1:=fun v x _=>∀BF,VR P BS ρ BF x->VR P AE ρ v x) (motive_2:=fun v x _=>∀BF,AV P BS ρ BF x->AV P AE ρ v x) (motive_3:=fun v x _=>∀BF,Az P BS ρ BF x->Az P AE ρ v x)
  (fun _ _=>.none) (fun b _ _=>.bool b) (fun i t _ _=>.int i t) (fun s t h _ _=>.str s t h) (fun h _ AS=>OA q h AS) (fun h _ hn ih _ AS=>N9 h hn ih AS) (fun h _ hn ih _ AS=>OB h hn ih AS) (fun h hc hd _ ih _ AS=>N8 h hc hd ih AS)
  (fun h hn _ _=>.rng h hn) (fun h hi _ AS=>OC q h hi AS) (fun a _ _=>.glob a) (fun id h _ _=>.bi id h) (fun n _ _=>.ty n) (fun h hi _ AS=>.app h (JI q hi AS)) (fun h hi _ AS=>.nxt h (JI q hi AS))
  (fun _ _=>.nil) (fun _ _ a b _ AS=>Nz a b AS) (fun _ _=>.nil) (fun hk _ _ a b _ AS=>N5 hk a b AS) h BF AS
theorem Az.cut (q:Pf ρ ρ') {v BF:List DictEntry} {x:List (Str × V)} (AS:Az P BS ρ BF x) (h:Az P AE ρ' v x):Az P AE ρ v x:=
 Az.rec (motive_1:=fun v x _=>∀BF,VR P BS ρ BF x->VR P AE ρ v x) (motive_2:=fun v x _=>∀BF,AV P BS ρ BF x->AV P AE ρ v x) (motive_3:=fun v x _=>∀BF,Az P BS ρ BF x->Az P AE ρ v x)
  (fun _ _=>.none) (fun b _ _=>.bool b) (fun i t _ _=>.int i t) (fun s t h _ _=>.str s t h) (fun h _ AS=>OA q h AS) (fun h _ hn ih _ AS=>N9 h hn ih AS) (fun h _ hn ih _ AS=>OB h hn ih AS) (fun h hc hd _ ih _ AS=>N8 h hc hd ih AS)
  (fun h hn _ _=>.rng h hn) (fun h hi _ AS=>OC q h hi AS) (fun a _ _=>.glob a) (fun id h _ _=>.bi id h) (fun n _ _=>.ty n) (fun h hi _ AS=>.app h (JI q hi AS)) (fun h hi _ AS=>.nxt h (JI q hi AS))
  (fun _ _=>.nil) (fun _ _ a b _ AS=>Nz a b AS) (fun _ _=>.nil) (fun hk _ _ a b _ AS=>N5 hk a b AS) h BF AS
theorem G0.cut {P:Params} (q:Pf ρ ρ') {v BF:Option Value} {x:Option V} (a:G0 P BS ρ BF x) (b:G0 P AE ρ' v x):G0 P AE ρ v x:=by
 induction v using oc with
 |none=>induction x using oc <;> exact b
 |some v=>induction x using oc with
  |none=>exact b
  |some x=>induction BF using oc with
   |none=>exact a.elim
   |some BF=>exact VR.cut q a b
theorem slotR.cut {P:Params} (q:Pf ρ ρ') {v BF:Option Value} {x:Option V} (a:slotR P BS ρ BF x) (b:slotR P AE ρ' v x):slotR P AE ρ v x:=by
 induction v using oc with
 |none=>induction x using oc <;> exact b
 |some v=>induction x using oc with
  |none=>exact b
  |some x=>induction BF using oc with
   |none=>exact a.elim
   |some BF=>exact VR.cut q a b
theorem OR.cut (q:Pf ρ ρ') {p:Addr × Option Addr} {o:O} (X:OR AB w BS ρ AS p o) (Y:OR AB w AE ρ' h' p o):OR AB w AE ρ h' p o:=by
 induction o using O.casesOn with
 |list l=>
  obtain ⟨_,_,_,_,_,a⟩:=X
  obtain ⟨b1,b2,xs,n,b3,b4⟩:=Y
  exact ⟨b1,b2,xs,n,b3,AV.cut q a b4⟩
 |dict l c=>
  obtain ⟨_,_,_,_,_,_,_,a⟩:=X
  obtain ⟨b1,b2,b3,xs,n,b4,b5,b6⟩:=Y
  exact ⟨b1,b2,b3,xs,n,b4,b5,Az.cut q a b6⟩
 |set l=>exact Y
 |inst l=>
  obtain ⟨_,_,_,_,_,_,a⟩:=X
  obtain ⟨b1,d,m,b2,b3,b4,b5⟩:=Y
  exact ⟨b1,d,m,b2,b3,b4,fun y=>(a y).cut q (b5 y)⟩
 |node x y z=>
  obtain ⟨_,_,_,_,_,a1,a2,a3⟩:=X
  obtain ⟨d,sl,b1,b2,b3,b4,b5,b6⟩:=Y
  exact ⟨d,sl,b1,b2,b3,a1.cut q b4,a2.cut q b5,a3.cut q b6⟩
 |iter i k=>
  obtain ⟨_,_,a,_⟩:=X
  obtain ⟨b1,y,b2,b3⟩:=Y
  cases Be b2 (q.get a)
  exact ⟨b1,_,a,b3⟩
 |obj=>exact Y
 |gone=>exact Y
 |tab=>exact Y
def DQ (φ:Fz) (ρ ρ':AZ) (h:Heap):Fz:=fun a=>if a∈Aa ρ'/\a∉Aa ρ then h.get? a else φ a
theorem Ss (R:Rel AB w φ ρ' st.hp h):Le φ (DQ φ ρ ρ' h):=fun a o e=>by
 unfold DQ
 by_cases q:a∈Aa ρ'/\a∉Aa ρ
 .rw [R.ap a q.1] at e;exact nn e
 .rw [aj q];exact e
theorem bU (m:a∈Aa ρ') (n:a∉Aa ρ):DQ φ ρ ρ' h a=h.get? a:=ak ⟨m,n⟩
theorem Su (n:a∉Aa ρ'):DQ φ ρ ρ' h a=φ a:=aj fun q=>n q.1
theorem bV (n:a∈Aa ρ):DQ φ ρ ρ' h a=φ a:=aj fun q=>q.2 n
theorem mapM_cons {f:V->Option V} {x:V} {l r:List V} (h:(x::l).mapM f=some r):∃y t,f x=some y/\l.mapM f=some t/\r=y::t:=by
 rw [List.mapM_cons] at h
 induction e:f x using oc with
 |none=>rw [e] at h;exact nn h
 |some y=>
  induction e':l.mapM f using oc with
  |none=>rw [e,e'] at h;exact nn h
  |some t=>rw [e,e'] at h;obtain rfl:=aa h;exact ⟨y,t,rfl,rfl,rfl⟩
theorem Po {f:V->Option V} {l r:List V} (h:l.mapM f=some r):r.length=l.length:=by
 induction l generalizing r with
 |nil=>rw [<-aa (h:some []=some r)];rfl
 |cons x l ih=>
  obtain ⟨y,t,_,e,rfl⟩:=mapM_cons h
  exact congrArg (· + 1) (ih e)
theorem Xz (R:Rel AB w φ ρ' st.hp h) (q:Pf ρ ρ') (e:ρ'[i]? = some p) (n:¬ i<ρ.length):p.1∈Aa ρ'/\p.1∉Aa ρ:=by
 refine ⟨DV e (.inl rfl),fun m=>?_⟩
 obtain ⟨τ,rfl⟩:=q
 have nd:=R.nd
 rw [KS] at nd
 rw [List.getElem?_append_right (by lia)] at e
 exact (List.nodup_append.mp nd).2.2 _ m _ (DV e (.inl rfl)) rfl
theorem bW {f:V->Option V} {CC:Fz} (hf:∀{rv:Value} {v v':V},f v=some v'->VR w.params φ ρ' rv v->VR w.params CC ρ rv v') {vs:List Value} {l l':List V} (hl:AV w.params φ ρ' vs l) (e:l.mapM f=some l'):AV w.params CC ρ vs l':=by
 induction l generalizing vs l' with
 |nil=>rw [hl.Co,<-aa (e:some []=some l')];exact .nil
 |cons x l ih=>
  obtain ⟨u,us,a,b,rfl⟩:=hl.Bx
  obtain ⟨y,t,e1,e2,rfl⟩:=mapM_cons e
  exact .cons (hf e1 a) (ih b e2)
theorem bY (R:Rel AB w φ ρ' st.hp h) (q:Pf ρ ρ') {rv:Value} (all:∀{vs:List Value} {l l':List V},AV w.params φ ρ' vs l->l.mapM (fz ρ.length st.hp d)=some l'->AV w.params (DQ φ ρ ρ' h) ρ vs l')
  (e:fz ρ.length st.hp (d+1) (.ref i)=some v') (hv:VR w.params φ ρ' rv (.ref i)):VR w.params (DQ φ ρ ρ' h) ρ rv v':=by
 obtain ⟨p,hi,rfl⟩:=hv.C8
 by_cases n:i<ρ.length
 .have e':some (V.ref i)=some v':=(ak n).symm.trans e
  rw [<-aa e']
  obtain ⟨τ,rfl⟩:=q
  rw [bw n] at hi
  exact .ref hi
 .have e:=(aj n).symm.trans e
  induction ho:st.hp[i]? using oc with
  |none=>rw [ho] at e;exact nn e
  |some o=>
   rw [ho] at e
   induction o using O.casesOn with
   |list l=>
    obtain ⟨l',e',rfl⟩:=Option.map_eq_some_iff.mp (show (l.mapM (fz ρ.length st.hp d)).map V.lst=some v' from e)
    obtain ⟨z,hn,xs,k,g,vl⟩:=R.ob _ _ _ ho hi
    obtain ⟨n1,n2⟩:=Xz R q hi n
    exact .lst ((bU n1 n2).trans g) (all vl e') (by rw [Po e'];exact hn)
   |_=>exact nn e
theorem cA (R:Rel AB w φ ρ' st.hp h) (q:Pf ρ ρ') (d:Nat) {rv:Value} {v v':V} (e:fz ρ.length st.hp d v=some v') (hv:VR w.params φ ρ' rv v):VR w.params (DQ φ ρ ρ' h) ρ rv v':=by
 induction d generalizing rv v v' with
 |zero=>exact nn e
 |succ d ih=>
  have L:=Ss (ρ:=ρ) R
  have all:=fun {vs l l'}=>bW (w:=w) (φ:=φ) (ρ:=ρ) (ρ':=ρ') (CC:=DQ φ ρ ρ' h) (f:=fz ρ.length st.hp d) ih (vs:=vs) (l:=l) (l':=l')
  induction v using V.casesOn with
  |ref i=>exact bY R q all e hv
  |lst l=>
   obtain ⟨l',e',rfl⟩:=Option.map_eq_some_iff.mp (show (l.mapM (fz ρ.length st.hp d)).map V.lst=some v' from e)
   have hn:=hv.Iq
   obtain ⟨a,xs,n,hf,hl,rfl⟩:=hv.Fb
   exact .lst (L _ _ hf) (all hl e') (by rw [Po e'];exact hn)
  |tup l=>
   obtain ⟨l',e',rfl⟩:=Option.map_eq_some_iff.mp (show (l.mapM (fz ρ.length st.hp d)).map V.tup=some v' from e)
   have hn:=hv.J9
   obtain ⟨a,xs,n,hf,hl,rfl⟩:=hv.E9
   exact .tup (L _ _ hf) (all hl e') (by rw [Po e'];exact hn)
  |none=>rw [hv.none_inv,<-aa (e:some _=some v')];exact .none
  |bool b=>rw [hv.F4,<-aa (e:some _=some v')];exact .bool b
  |int i=>obtain ⟨t,rfl⟩:=hv.B3;rw [<-aa (e:some _=some v')];exact .int i t
  |str x=>have hx:=hv.I6;obtain ⟨t,rfl⟩:=hv.Bw;rw [<-aa (e:some _=some v')];exact .str x t hx
  |glob a=>rw [hv.Ib,<-aa (e:some _=some v')];exact .glob a
  |bi id=>have hh:=hv.inv.1;rw [hv.Nl,<-aa (e:some _=some v')];exact .bi id hh
  |ty n=>rw [hv.I9,<-aa (e:some _=some v')];exact .ty n
  |_=>exact nn e
theorem Al.leave (H:AK AB w A AA Z BS ρ st AS) (le:Le BS φ) (new:∀a o,φ a=some o->BS a=none->AS.get? a=none) (k:∀b o,AS.get? b=some o->h.get? b=some o) (hZ:∀a∈Z',AS.get? a=none) {l:List Env}
  (hA:A.frames=some l) (Oh:A'.frames=some (Ls::l)) (hH:A'.handled=A.handled) (e1:st2.hp=st.hp) (e2:st2.lo=st.lo) (e3:st2.hd=st.hd) (p:Al AB w A' Ls Z' φ ρ st2 h AE ρ' st' h') :
  Al AB w A AA Z BS ρ st AS AE ρ' {st' with AA:=st.AA,sc:=st.sc} h':=by
 have old:∀b,AS.get? b≠none->b∉Z':=fun b n m=>n (hZ b m)
 have back:∀a,h.get? a=none->AS.get? a=none:=fun a e=>by
  induction q:AS.get? a using oc with
  |none=>rfl
  |some o=>rw [k a o q] at e;cases e
 have live:∀a,AS.get? a≠none->h'.get? a≠none:=fun a n=>p.ext.live a fun q=>n (back a q)
 have newF:∀a o,AE a=some o->BS a=none->AS.get? a=none:=fun a o e n=>by
  induction q:φ a using oc with
  |none=>exact back a (p.ext.newF a o e q)
  |some o'=>exact new a o' q n
 have newR:∀a∈Aa ρ',a∉Aa ρ->AS.get? a=none:=fun a m n=>back a (p.ext.newR a m n)
 have kept:∀b o,AS.get? b=some o->b∉Aa ρ->Kept h' b o:=fun b o e n=>p.ext.keep b o (k b o e) n (old b (A8 e))
 refine ⟨p.rel,H.er.Jf (le.trans p.ext.le) p.ext.pf (fun b o e n _=>(kept b o e n).slots) (fun a m=>live a (H.er.zr a m).2.2) newF newR rfl rfl,⟨?_,⟨fun q=>H.amb.hd.1 (e3.symm.trans (p.hd.symm.trans q)),fun q=>?_⟩,H.amb.un⟩,
  ⟨le.trans p.ext.le,p.ext.pf,newF,newR,live,fun b o e n z=>kept b o e n⟩,p.lo.trans e2,rfl,p.hd.trans e3,?_⟩
 .obtain ⟨l',a,b⟩:=p.amb.fr
  cases Be Oh a
  exact ⟨l,hA,fun e m=>b e (.tail _ m)⟩
 .obtain ⟨x,ox,vs,a1,a2,a3,a4,a5,a6,a7⟩:=p.amb.hd.2 q
  obtain ⟨x',_,_,b1,_,_,_,_,_,b7⟩:=H.amb.hd.2 (e3.symm.trans (p.hd.symm.trans q))
  rw [hH,b1] at a1
  cases a1
  exact ⟨_,ox,vs,b1,a2,a3,a4,a5,a6,b7⟩
 .rw [<-e2,p.pre,e1]
theorem Al.drop (H:AK AB w A AA Z BS ρ st AS) (le:Le BS φ) (new:∀a o,φ a=some o->BS a=none->AS.get? a=none) (k:∀b o,AS.get? b=some o->h.get? b=some o) (hZ:∀a∈Z',AS.get? a=none) {l:List Env}
  (hA:A.frames=some l) (Oh:A'.frames=some (Ls::l)) (hH:A'.handled=A.handled) (e1:st2.hp=st.hp) (e2:st2.lo=st.hp.length) (e3:st2.hd=st.hd) (p:Al AB w A' Ls Z' φ ρ st2 h AE ρ' st' h') :
  Al AB w A AA Z BS ρ st AS (DQ AE ρ ρ' h') ρ st h':=by
 have old:∀b,AS.get? b≠none->b∉Z':=fun b n m=>n (hZ b m)
 have back:∀a,h.get? a=none->AS.get? a=none:=fun a e=>by
  induction q:AS.get? a using oc with
  |none=>rfl
  |some o=>rw [k a o q] at e;cases e
 have live:∀a,AS.get? a≠none->h'.get? a≠none:=fun a n=>p.ext.live a fun q=>n (back a q)
 have newR:∀a∈Aa ρ',a∉Aa ρ->AS.get? a=none:=fun a m n=>back a (p.ext.newR a m n)
 have L:Le AE (DQ AE ρ ρ' h'):=Ss p.rel
 have newF:∀a o,DQ AE ρ ρ' h' a=some o->BS a=none->AS.get? a=none:=fun a o e n=>by
  by_cases q:a∈Aa ρ'/\a∉Aa ρ
  .exact newR a q.1 q.2
  .unfold DQ at e
   rw [aj q] at e
   induction q:φ a using oc with
   |none=>exact back a (p.ext.newF a o e q)
   |some o'=>exact new a o' q n
 have kept:∀b o,AS.get? b=some o->b∉Aa ρ->Kept h' b o:=fun b o e n=>p.ext.keep b o (k b o e) n (old b (A8 e))
 have hp:st'.hp.take st.hp.length=st.hp:=by
  have:=p.pre
  rw [e2,e1,List.take_length] at this
  exact this
 have fV:∀i o,st.hp[i]? = some o->st'.hp[i]? = some o:=fun i o e=>by
  have hi:=(List.getElem?_eq_some_iff.mp e).1
  rw [<-hp,List.getElem?_take,ak hi] at e
  exact e
 have mem:∀a∈Aa ρ,a∈Aa ρ':=fun a m=>by
  obtain ⟨τ,rfl⟩:=p.ext.pf
  rw [KS]
  exact List.mem_append_left _ m
 refine ⟨⟨fun a o e=>?_,H.rel.len,fun i o q a b=>?_,H.rel.nd,fun a m=>(bV m).trans (p.rel.ap a (mem a m)),fun a m=>p.rel.th a (mem a m)⟩,
  H.er.Jf ((le.trans p.ext.le).trans L) (.refl _) (fun b o e n _=>(kept b o e n).slots) (fun a m=>live a (H.er.zr a m).2.2) newF (fun a m n=>absurd m n) rfl rfl,⟨?_,⟨H.amb.hd.1,fun q=>?_⟩,H.amb.un⟩,
  ⟨(le.trans p.ext.le).trans L,.refl _,newF,fun a m n=>absurd m n,live,fun b o e n z=>kept b o e n⟩,rfl,rfl,rfl,rfl⟩
 .by_cases q:a∈Aa ρ'/\a∉Aa ρ
  .unfold DQ at e;rw [ak q] at e;exact e
  .unfold DQ at e;rw [aj q] at e;exact p.rel.fz _ _ e
 .exact ((H.rel.ob i o q a b).cut p.ext.pf (p.rel.ob i o q (fV i o a) (p.ext.pf.get b))).mono L (.refl _) fun a _ x e=>e
 .obtain ⟨l',a,b⟩:=p.amb.fr
  rw [Oh] at a
  obtain rfl:=aa a
  refine ⟨l,hA,fun e m=>?_⟩
  obtain ⟨c,L',o,d1,d2,d3,d4,d5⟩:=b e (.tail _ m)
  exact ⟨c,L',o,d1,d2,d3,fun z=>d4 (mem _ z),(Su d4).trans d5⟩
 .obtain ⟨x,ox,vs,a1,a2,a3,a4,a5,a6,a7⟩:=p.amb.hd.2 (p.hd.trans (e3.trans q))
  obtain ⟨x',_,_,b1,_,_,_,_,_,b7⟩:=H.amb.hd.2 q
  rw [hH,b1] at a1
  cases a1
  exact ⟨_,ox,vs,b1,a2,a3,a4,fun z=>a5 (mem _ z),(Su a5).trans a6,b7⟩
inductive Dg (P:Params) (φ:Fz) (ρ:AZ):List (Str × Value)->Loc->Prop
 |nil:Dg P φ ρ [] []
 |cons {x:Str} {v:Value} {u:V} {bs:List (Str × Value)} {l:Loc} (h:VR P φ ρ v u) (t:Dg P φ ρ bs l):Dg P φ ρ ((x,v)::bs) ((x,u)::l)
theorem YD {kd:Str->Option NameKind}:∀{bs:List (Str × Value)} {m:Str->Option Value},x∉bs.map (·.1)->bindL kd bs m x=m x:=by
 intro Nq
 induction Nq with
 |nil=>
  intro m _
  exact rfl
 |cons BN r AU=>
  obtain ⟨n,v⟩:=BN
  intro m h
  rw [bq,List.mem_cons,not_or] at h
  unfold bindL
  rw [AU h.2]
  split
  .exact aj h.1
  .rfl
theorem YA {kd:Str->Option NameKind}:∀{bs:List (Str × Value)} {m:Str->Option Value},x∉bs.map (·.1)->bindC kd bs m x=m x:=by
 intro Nq
 induction Nq with
 |nil=>
  intro m _
  exact rfl
 |cons BN r AU=>
  obtain ⟨n,v⟩:=BN
  intro m h
  rw [bq,List.mem_cons,not_or] at h
  unfold bindC
  rw [AU h.2]
  split
  .rfl
  .exact aj h.1
theorem YC {kd:Str->Option NameKind} (hk:kd x=some .local) (b:Dg P φ ρ bs l):∀{m:Str->Option Value},(bs.map (·.1)).Nodup->AN x l=some u->∃rv,bindL kd bs m x=some rv/\VR P φ ρ rv u:=by
 induction b with
 |nil=>exact fun _ e=>nn e
 | @cons y v _ bs _ h t ih=>
  intro m nd e
  rw [bq,List.nodup_cons] at nd
  rw [Ca] at e
  unfold bindL
  by_cases q:(y==x)=true
  .rw [ak q] at e
   obtain rfl:=aa e
   have q:y=x:=eq_of_beq q
   subst q
   rw [YD nd.1,ak hk,ak rfl]
   exact ⟨v,rfl,h⟩
  .rw [aj q] at e
   exact ih nd.2 e
theorem X8 {kd:Str->Option NameKind} (hk:kd x≠some .local) (b:Dg P φ ρ bs l):∀{m:Str->Option Value},(bs.map (·.1)).Nodup->AN x l=some u->∃rv,bindC kd bs m x=some rv/\VR P φ ρ rv u:=by
 induction b with
 |nil=>exact fun _ e=>nn e
 | @cons y v _ bs _ h t ih=>
  intro m nd e
  rw [bq,List.nodup_cons] at nd
  rw [Ca] at e
  unfold bindC
  by_cases q:(y==x)=true
  .rw [ak q] at e
   obtain rfl:=aa e
   have q:y=x:=eq_of_beq q
   subst q
   rw [YA nd.1,aj hk,ak rfl]
   exact ⟨v,rfl,h⟩
  .rw [aj q] at e
   exact ih nd.2 e
set_option tactic.hygienic true in
theorem Ys:∀{names:List (Str × NameKind)} {n:Nat} {AM:List (Str × Addr)},((AM.lookup x).isSome=true\/(x,NameKind.cell)∈names)->((cellsFrom n names AM).lookup x).isSome=true:=by
 intro Fc
 induction Fc with
 |nil=>
  intro n AM h
  rcases h with h | h
  .exact h
  .cases h
 |cons BN r AU=>
  obtain ⟨y,k⟩:=BN
  intro n AM h
  unfold cellsFrom
  split
  .rename_i hk
   refine AU ?_
   rcases h with h | h
   .left
    rw [List.lookup_cons]
    induction x==y using bc with
    |true=>rfl
    |false=>exact h
   .rcases List.mem_cons.mp h with h | h
    .cases h
     left
     rw [List.lookup_cons,beq_self_eq_true]
     rfl
    .exact .inr h
  .rename_i hk
   refine AU ?_
   rcases h with h | h
   .exact .inl h
   .rcases List.mem_cons.mp h with h | h
    .cases h
     exact absurd (by decide) hk
    .exact .inr h
theorem Lq (h:names.lookup x=some .cell):∃c,(cellsFrom n names []).lookup x=some c:=
 Option.isSome_iff_exists.mp (Ys (.inr (mem_of_lookup h)))
structure Lb (P:Params) (f:Nat) (fn:Fn) (fd:FuncData):Prop where
 obj:(KK P).lookup (DC f)=some ⟨.type "function",none,.func fd,#[]⟩
 co:fd.scope.isCoroutine=false
 gen:fd.scope.isGenerator=false
 kind:fd.scope.kind = .function
 body:fd.body = .stmts fn.body
 names:fd.scope.names=fn.sc
 gl:fd.globals=mainGlobals
 cl:fd.closure=[]
 bl:fd.builtins=builtinsNs
 code:∃c o vs t,fd.code = .ref c/\(KK P).lookup c=some o/\o.data = .fields vs/\vs[1]? = some (.str fd.qualname t)
 cd:GH fn.sc=true->fd.code = .ref 61
 free:fn.sc.all (fun p=>!(p.2 == .free))=true
 par:(fn.params++fn.rest.toList).all (fun x=>fn.sc.lookup x==some .local || fn.sc.lookup x==some .cell)=true
 nd:(fn.params++fn.rest.toList).Nodup
noncomputable def El (AA:Env) (sc:Sc):List Addr:=AA.locals::sc.filterMap fun p=>if p.2 == .cell then AA.cells.lookup p.1 else none
theorem enter (F:Lb w.params f fn fd) (H:AK AB w A AA Z φ ρ st s.heap) {binds:List (Str × Value)} (br:Dg w.params φ ρ binds l) (nd:(binds.map (·.1)).Nodup) (a:Addr) (A6:A.frames=some fr) (hu:A.units+110<cLine)
  (he:A3=newEnv fd.scope s.heap.objs.size fd.globals (cellsFrom (s.heap.objs.size+1) fd.scope.names []) (fd.qualname ++ ".<locals>.") (some a) fd.code none fd.builtins)
  (x:InCallC s A3.locals (bindL A3.kindOf binds fun _=>none) A3.cells (bindC A3.kindOf binds fun _=>none) BX) (Bc:1<=lo/\lo<=st.hp.length) :
  AK AB w (A.deeper A3) A3 (El A3 fn.sc) φ ρ {st with AA:=l,sc:=fn.sc,lo:=lo} BX.heap/\(∀b∈El A3 fn.sc,s.heap.get? b=none)/\(∀b o,s.heap.get? b=some o->BX.heap.get? b=some o)/\(A.deeper A3).frames=some (A3::fr):=by
 have k:=x.toInCall.keep
 have p:=H.grow k
 have Kw:∀y,A3.kindOf y=fn.sc.lookup y:=fun y=>by rw [he];show fd.scope.names.lookup y=_;rw [F.names]
 have hcells:A3.cells=cellsFrom (s.heap.objs.size+1) fn.sc []:=by rw [he];show cellsFrom _ fd.scope.names []=_;rw [F.names]
 have MJ:A3.locals=s.heap.objs.size:=by rw [he];rfl
 have noFree:∀y,fn.sc.lookup y≠some .free:=fun y e=>by
  have:=List.all_eq_true.mp F.free _ (mem_of_lookup e)
  simp at this
 have dead:∀b,s.heap.objs.size<=b->s.heap.get? b=none:=fun b q=>Heap.get?_none_of_le q
 have off:∀b,s.heap.objs.size<=b->b∉Aa ρ/\φ b=none:=fun b q=>⟨fun m=>H.rel.th b m (dead b q),H.fresh (dead b q)⟩
 have above:∀y c,A3.cells.lookup y=some c->s.heap.objs.size<c:=fun y c e=>MJ ▸ x.above y c (mem_of_lookup e)
 have inZ:∀b∈El A3 fn.sc,b=A3.locals\/∃y,A3.cells.lookup y=some b:=fun b m=>by
  rcases List.mem_cons.mp m with m | m
  .exact .inl m
  .obtain ⟨q,_,e⟩:=List.mem_filterMap.mp m
   split at e
   .exact .inr ⟨q.1,e⟩
   .exact nn e
 have geZ:∀b∈El A3 fn.sc,s.heap.objs.size<=b:=fun b m=>by
  rcases inZ b m with rfl | ⟨y,e⟩
  .rw [MJ];exact ao _
  .exact Nat.le_of_lt (above y b e)
 have obL:∃o,BX.heap.get? A3.locals=some o/\∃es n,o.data = .dict es n:=by
  obtain ⟨o,es,n,a,b,_⟩:=x.toInCall.ns
  exact ⟨o,a,es,n,b⟩
 have FQ:(A.deeper A3).frames=some (A3::fr):=by show A.frames.map _=_;rw [A6];rfl
 refine ⟨⟨H.gl,p.rel,?_,⟨⟨_,FQ,fun e m=>?_⟩,⟨H.amb.hd.1,fun q=>?_⟩,?_⟩,Bc.2,⟨Bc.1,H.tb.hp,H.tb.at_⟩⟩,fun b m=>dead b (geZ b m),k,FQ⟩
 .refine ⟨by rw [he];exact F.kind,by rw [he];exact F.gl,by rw [he];exact F.bl,fun q=>by rw [he];exact F.cd q,fun y e=>(Kw y).trans e,fun y e=>(Kw y).trans e,fun y e=>absurd e (noFree y),fun y e=>(Kw y).trans e,
   ⟨_,x.toInCall.ns,fun y v e g=>YC ((Kw y).trans e) br nd g⟩,fun y e=>?_,fun y z c e1 e2 e3 e4=>name_of_addr x.apart (mem_of_lookup e3) (mem_of_lookup e4),.head _,fun b m=>?_⟩
  .have e:fn.sc.lookup y=some .cell:=e.resolve_right (noFree y)
   obtain ⟨c,hc⟩:=Lq (n:=s.heap.objs.size+1) e
   rw [<-hcells] at hc
   have hz:=above y c hc
   obtain ⟨o1,o2⟩:=off c (Nat.le_of_lt hz)
   refine ⟨c,_,hc,x.cell y c hc,fun v g=>X8 (by rw [Kw y,e];decide) br nd g,o1,o2,by rw [MJ];exact Nat.ne_of_gt hz,fun _=>.tail _ (List.mem_filterMap.mpr ⟨_,mem_of_lookup e,?_⟩),fun q=>absurd q (noFree y)⟩
   exact hc
  .obtain ⟨o1,o2⟩:=off b (geZ b m)
   refine ⟨o1,o2,?_⟩
   rcases inZ b m with rfl | ⟨y,e⟩
   .obtain ⟨o,q,_⟩:=obL
    exact A8 q
   .obtain ⟨o,q,_⟩:=x.cell y b e
    exact A8 q
 .rcases List.mem_cons.mp m with rfl | m
  .obtain ⟨o,q1,q2⟩:=obL
   obtain ⟨o1,o2⟩:=off e.locals (Nat.le_of_eq MJ.symm)
   exact ⟨by rw [he];show fd.scope.kind≠_;rw [F.kind];decide,e.locals,o,by rw [he];rfl,q1,q2,o1,o2⟩
  .obtain ⟨l',a1,a2⟩:=p.amb.fr
   rw [A6] at a1
   obtain rfl:=aa a1
   exact a2 e m
 .obtain ⟨y,oy,vs,a1,a2,a3,a4,a5,a6,a7⟩:=H.amb.hd.2 q
  exact ⟨y,oy,vs,a1,k _ _ a2,a3,a4,a5,a6,fun m=>A8 a2 (dead y (geZ y m))⟩
 .show A.units+3+100<cLine
  lia
def CK (P:Params) (f:Nat):FuncData:=match (KK P).lookup (DC f) with
 |some ⟨_,_,.func fd,_⟩=>fd
 |_=>default
def Aj (f:Nat):Fn:=(CZ f fns).getD ⟨[],none,[],[]⟩
noncomputable def Mh:Value->Option Addr
 | .ref a=>some a
 |_=>none
noncomputable def WC:Value->Option (Str × Tok)
 | .str s t=>some (s,t)
 |_=>none
noncomputable def Sj:Data->Option (Array Value)
 | .fields vs=>some vs
 |_=>none
def Rv (P:Params) (fd:FuncData):Option (Str × Tok):=(Mh fd.code).bind fun c=>((KK P).lookup c).bind fun o=>(Sj o.data).bind fun vs=>(vs[1]?).bind fun v=>WC v
def codeOk (P:Params) (fd:FuncData):Bool:=(Rv P fd).elim false fun q=>q.1==fd.qualname
theorem VC (h:Mh v=some a):v = .ref a:=GN (P:=fun a=>v = .ref a) (by clear h;induction v using Value.casesOn <;> first | exact trivial | exact rfl) h
theorem ue {a:Str × Tok} (h:WC v=some a):v = .str a.1 a.2:=GN (P:=fun a=>v = .str a.1 a.2) (by clear h;induction v using Value.casesOn <;> first | exact trivial | exact rfl) h
theorem bG {v:Data} {a:Array Value} (h:Sj v=some a):v = .fields a:=GN (P:=fun a=>v = .fields a) (by clear h;induction v using Data.casesOn <;> first | exact trivial | exact rfl) h
theorem Y8 (h:codeOk P fd=true):∃c o vs t,fd.code = .ref c/\(KK P).lookup c=some o/\o.data = .fields vs/\vs[1]? = some (.str fd.qualname t):=by
 unfold codeOk at h
 induction hq:Rv P fd using oc with
 |none=>rw [hq] at h;exact Bool.noConfusion h
 |some q=>
  rw [hq] at h
  obtain ⟨c,e1,hq⟩:=FE hq
  obtain ⟨o,e2,hq⟩:=FE hq
  obtain ⟨vs,e3,hq⟩:=FE hq
  obtain ⟨v,e4,hq⟩:=FE hq
  exact ⟨c,o,vs,q.2,VC e1,e2,bG e3,by rw [e4,ue hq,eq_of_beq (show (q.1==fd.qualname)=true from h)]⟩
def PT (v:Value):Bool:=(Mh v).elim false fun a=>a==61
theorem Yq {b:Bool} {v:Value} (h:(!b || PT v)=true):b=true->v = .ref 61:=fun q=>by
 subst q
 have h:PT v=true:=h
 unfold PT at h
 induction q:Mh v using oc with
 |none=>rw [q] at h;exact Bool.noConfusion h
 |some a=>rw [q] at h;rw [VC q,eq_of_beq (show (a==61)=true from h)]
noncomputable def HZ:List Nat:=[55,62,189,196,201,206,211,216,223,228,235,1001,1002,1003,1004,1005,1006,1007,1008]
theorem L6 (h:CZ f fns=some fn):f∈HZ/\fn=Aj f:=by
 refine ⟨?_,by unfold Aj;rw [h];rfl⟩
 refine Classical.byContradiction fun n=>?_
 have:∀l:List (Nat × Option Fn),(∀p∈l,p.1≠f)->CZ f l=none:=by
  intro l
  induction l with
  |nil=>intro _;rfl
  |cons p r ih=>
   intro hq
   show (if p.1==f then p.2 else CZ f r)=none
   rw [aj (by simpa using hq p (.head _))]
   exact ih fun q m=>hq q (.tail _ m)
 rw [this fns fun p m e=>n (by
  have:p.1∈fns.map (·.1):=List.mem_map_of_mem m
  rw [e] at this
  exact this)] at h
 exact nn h
theorem Sl (h:CZ f fns=some fn) (P:Params):Lb P f fn (CK P f):=by
 obtain ⟨m,rfl⟩:=L6 h
 clear h
 simp only [HZ,List.mem_cons,List.not_mem_nil,or_false] at m
 rcases m with rfl | rfl | rfl | rfl | rfl | rfl | rfl | rfl | rfl | rfl | rfl | rfl | rfl | rfl | rfl | rfl | rfl | rfl | rfl
 all_goals exact ⟨by kernel_rfl,by kernel_rfl,by kernel_rfl,by kernel_rfl,by kernel_rfl,by kernel_rfl,by kernel_rfl,by kernel_rfl,by kernel_rfl,Y8 (by kernel_rfl),Yq (by kernel_rfl),by kernel_rfl,by kernel_rfl,of_decide_eq_true (by kernel_rfl)⟩
theorem UE (h:us.length=1):∃a,us=[a]:=by
 rcases us with _ | ⟨a,_ | ⟨b,r⟩⟩ <;> first | exact ⟨_,rfl⟩ | (simp at h)
theorem UG (h:us.length=2):∃a b,us=[a,b]:=by
 rcases us with _ | ⟨a,_ | ⟨b,_ | ⟨c,r⟩⟩⟩ <;> first | exact ⟨_,_,rfl⟩ | (simp at h)
theorem kX (h:us.length=3):∃a b c,us=[a,b,c]:=by
 rcases us with _ | ⟨a,_ | ⟨b,_ | ⟨c,_ | ⟨d,r⟩⟩⟩⟩ <;> first | exact ⟨_,_,_,rfl⟩ | (simp at h)
noncomputable def PZ:List Nat:=[55,196,223,235,1005,1006,1008]
noncomputable def Pa:List Nat:=[189,206,211,216,1001,1003]
noncomputable def Pb:List Nat:=[62,201,228]
theorem plain1 (h:f∈PZ) (P:Params) (hl:us.length=(Aj f).params.length):bindArgs (CK P f) ⟨us,[]⟩=pure ((Aj f).params.zip us)/\(Aj f).rest=none:=by
 simp only [PZ,List.mem_cons,List.not_mem_nil,or_false] at h
 rcases h with rfl | rfl | rfl | rfl | rfl | rfl | rfl
 all_goals (obtain ⟨a,rfl⟩:=UE (hl.trans (by kernel_rfl));exact ⟨by kernel_rfl,by kernel_rfl⟩)
theorem plain2 (h:f∈Pa) (P:Params) (hl:us.length=(Aj f).params.length):bindArgs (CK P f) ⟨us,[]⟩=pure ((Aj f).params.zip us)/\(Aj f).rest=none:=by
 simp only [Pa,List.mem_cons,List.not_mem_nil,or_false] at h
 rcases h with rfl | rfl | rfl | rfl | rfl | rfl
 all_goals (obtain ⟨a,b,rfl⟩:=UG (hl.trans (by kernel_rfl));exact ⟨by kernel_rfl,by kernel_rfl⟩)
theorem U4 (h:f∈Pb) (P:Params) (hl:us.length=(Aj f).params.length):bindArgs (CK P f) ⟨us,[]⟩=pure ((Aj f).params.zip us)/\(Aj f).rest=none:=by
 simp only [Pb,List.mem_cons,List.not_mem_nil,or_false] at h
 rcases h with rfl | rfl | rfl
 all_goals (obtain ⟨a,b,c,rfl⟩:=kX (hl.trans (by kernel_rfl));exact ⟨by kernel_rfl,by kernel_rfl⟩)
def Mk (f:Nat):Str:=(Aj f).rest.getD default
theorem V4 (P:Params) (hl:us.length=(Aj 1004).params.length) (ws:List Value):bindArgs (CK P 1004) ⟨us++ws,[]⟩=(newTuple ws >>= fun t=>pure ((Aj 1004).params.zip us++[(Mk 1004,t)]))/\(Aj 1004).rest=some (Mk 1004):=by
 obtain ⟨a,b,rfl⟩:=UG (hl.trans (by kernel_rfl))
 refine ⟨?_,by kernel_rfl⟩
 induction ws using lc with
 |nil=>kernel_rfl
 |cons c r=>kernel_rfl
theorem V5 (P:Params) (hl:us.length=(Aj 1007).params.length) (ws:List Value):bindArgs (CK P 1007) ⟨us++ws,[]⟩=(newTuple ws >>= fun t=>pure ((Aj 1007).params.zip us++[(Mk 1007,t)]))/\(Aj 1007).rest=some (Mk 1007):=by
 obtain ⟨a,rfl⟩:=UE (hl.trans (by kernel_rfl))
 refine ⟨?_,by kernel_rfl⟩
 induction ws using lc with
 |nil=>kernel_rfl
 |cons c r=>kernel_rfl
theorem jH (h:f∈HZ) (n:f≠1002):f∈PZ\/f∈Pa\/f∈Pb\/f=1004\/f=1007:=by
 simp only [HZ,List.mem_cons,List.not_mem_nil,or_false] at h
 rcases h with rfl | rfl | rfl | rfl | rfl | rfl | rfl | rfl | rfl | rfl | rfl | rfl | rfl | rfl | rfl | rfl | rfl | rfl | rfl
 all_goals first | (exact absurd rfl n) | (left;decide) | (right;left;decide) | (right;right;left;decide) | (right;right;right;left;rfl) | (right;right;right;right;rfl)
theorem YG {xs:List Str}:∀{as rest:List V} {vs:List Value} {l:Loc},binds xs as=some (l,rest)->AV P φ ρ vs as->∃us ws,vs=us++ws/\us.length=xs.length/\Dg P φ ρ (xs.zip us) l/\AV P φ ρ ws rest:=by
 induction xs with
 |nil=>intro as rest vs l e hv;cases e;exact ⟨[],vs,rfl,rfl,.nil,hv⟩
 |cons x xs ih=>
  intro as rest vs l e hv
  induction as using lc with
  |nil=>exact nn e
  |cons a as=>
   obtain ⟨u,us',h,t,rfl⟩:=hv.Bx
   obtain ⟨⟨l',r'⟩,e',q⟩:=Option.map_eq_some_iff.mp (e:(binds xs as).map _=_)
   cases q
   obtain ⟨us,ws,rfl,e2,e3,e4⟩:=ih e' t
   exact ⟨_::us,ws,rfl,congrArg _ e2,.cons h e3,e4⟩
theorem Dg.append (hv:VR P φ ρ v u) (h:Dg P φ ρ bs l):Dg P φ ρ (bs++[(x,v)]) (l++[(x,u)]):=by
 induction h with
 |nil=>exact .cons hv .nil
 |cons h _ ih=>exact .cons h ih
theorem Dg.le {P:Params} (L:Le φ AE) {bs:List (Str × Value)} {l:Loc} (h:Dg P φ ρ bs l):Dg P AE ρ bs l:=by
 induction h with
 |nil=>exact .nil
 |cons h _ ih=>exact .cons (h.le L) ih
theorem Wk {xs:List Str} (h:us.length=xs.length):(xs.zip us).map (·.1)=xs:=by
 rw [List.map_fst_zip]
 lia
set_option tactic.hygienic true in
theorem Rg (hk:f∈HZ) (n:f≠1002) {as:List V} (H:AK AB w A AA Z φ ρ st s.heap) (hv:AV w.params φ ρ vs as) (hb:Bh (Aj f) as=some l) {M:Model} {Q:List (Str × Value)->Shared->Prop}
  (h:∀AE h' tk bs,Le φ AE->(∀a o,AE a=some o->φ a=none->s.heap.get? a=none)->(∀b o,s.heap.get? b=some o->h'.get? b=some o)->AK AB w A AA Z AE ρ st h'->Dg w.params AE ρ bs l->bs.map (·.1)=(Aj f).params++(Aj f).rest.toList->Q bs {s with heap:=h',toks:=tk}) :
  wpAny M A' (bindArgs (CK w.params f) ⟨vs,[]⟩) Q E s:=by
 unfold Bh at hb
 split at hb
 case isFalse=>exact nn hb
 rename_i hlen
 induction e:binds (Aj f).params as using oc with
 |none=>rw [e] at hb;exact nn hb
 |some p=>
  obtain ⟨l',rest⟩:=p
  rw [e] at hb
  dsimp only at hb
  obtain ⟨us,ws,rfl,e2,e3,e4⟩:=YG e hv
  have plain:bindArgs (CK w.params f) ⟨us,[]⟩=pure ((Aj f).params.zip us)->(Aj f).rest=none->wpAny M A' (bindArgs (CK w.params f) ⟨us++ws,[]⟩) Q E s:=fun q r=>by
   rw [r] at hb
   dsimp only at hb
   split at hb
   .rename_i z
    obtain rfl:=aa hb
    have:rest=[]:=by simpa using z
    subst this
    cases e4
    rw [List.append_nil,q]
    refine aq (h φ s.heap s.toks _ (.refl _) (fun a o x y=>by rw [y] at x;exact nn x) (fun _ _ e=>e) H e3 ?_)
    rw [Wk e2,r]
    simp
   .exact nn hb
  have star:∀x,bindArgs (CK w.params f) ⟨us++ws,[]⟩=(newTuple ws >>= fun t=>pure ((Aj f).params.zip us++[(x,t)]))->(Aj f).rest=some x->wpAny M A' (bindArgs (CK w.params f) ⟨us++ws,[]⟩) Q E s:=fun x q r=>by
   rw [r] at hb
   dsimp only at hb
   obtain rfl:=aa hb
   have hw:ws.length<=1000:=by
    have h1:=hv.length
    simp only [List.length_append] at h1
    lia
   rw [q]
   refine ah (wpAny_newTuple (aq ?_) (CS hw))
   have p:=H.Kl (a:=s.heap.objs.size) (o:=E8 ws.toArray 0) (h':=s.heap.push (E8 ws.toArray 0)) (fun b x e=>bf _ e) (EE _) (au _ rfl)
   have hf:=H.fresh (EE s.heap)
   have L:Le φ (put φ s.heap.objs.size (E8 ws.toArray 0)):=U5 hf
   refine h _ _ s.toks _ L p.ext.newF (fun b x e=>bf _ e) (H.after p) ((e3.le L).append (.tup (DY ..) (e4.put hf) (by rw [<-e4.length];exact hw))) ?_
   rw [List.map_append,Wk e2,r]
   rfl
  rcases jH hk n with k | k | k | rfl | rfl
  .exact plain (plain1 k _ e2).1 (plain1 k w.params e2).2
  .exact plain (plain2 k _ e2).1 (plain2 k w.params e2).2
  .exact plain (U4 k _ e2).1 (U4 k w.params e2).2
  .exact star _ (V4 _ e2 ws).1 (V4 w.params e2 ws).2
  .exact star _ (V5 _ e2 ws).1 (V5 w.params e2 ws).2
theorem Tt (h:f∈HZ):∃fn,CZ f fns=some fn:=by
 have:(CZ f fns).isSome=true:=by
  simp only [HZ,List.mem_cons,List.not_mem_nil,or_false] at h
  rcases h with rfl | rfl | rfl | rfl | rfl | rfl | rfl | rfl | rfl | rfl | rfl | rfl | rfl | rfl | rfl | rfl | rfl | rfl | rfl
  all_goals kernel_rfl
 exact Option.isSome_iff_exists.mp this
theorem YB (P:Params) (a:Value):∃k,bindArgs (CK P 1002) ⟨[a],[]⟩=seqItems? (CK P 1002).defaults >>= k/\k (some #[.none])=pure ([("self",a),("graph",.none)]:List (Str × Value)):=by
 unfold bindArgs
 refine ⟨_,rfl,?_⟩
 kernel_rfl
noncomputable def ET:Fl->V
 | .ret v=>v
 |_=>.none
noncomputable def B0 (f:Nat) (fn:Fn) (l:Loc) (st:S):S:={st with AA:=l,sc:=fn.sc,lo:=if Bf f then st.hp.length else st.lo}
def Ff (f:Nat) (st:S):Option (Out Fl)->Option (Out V)
 |none=>none
 |some (.ex c s')=>if Bf f then none else some (.ex c {s' with AA:=st.AA,sc:=st.sc})
 |some (.ok fl s')=>if Bf f then (match fz st.hp.length s'.hp 4 (ET fl) with
   |some v'=>some (.ok v' st)
   |none=>none) else some (.ok (ET fl) {s' with AA:=st.AA,sc:=st.sc})
noncomputable def Nt (f:Nat) (st:S):Option (Out Res)->Option (Out Res)
 |none=>none
 |some (.ex c s')=>if Bf f then none else some (.ex c {s' with AA:=st.AA,sc:=st.sc})
 |some (.ok r s')=>match r with
  | .f fl=>if Bf f then (match fz st.hp.length s'.hp 4 (ET fl) with
   |some v'=>some (.ok (.v v') st)
   |none=>none) else some (.ok (.v (ET fl)) {s' with AA:=st.AA,sc:=st.sc})
  |_=>none
theorem Yd {t:T} (r:Option (Out Res)):Ih.v (fun _ _=>Nt f st r) t st=Ff f st (Ih.f (fun _ _=>r) t' st'):=by
 induction r using oc with
 |none=>rfl
 |some o=>
  induction o using uc with
  |ex c s'=>
   show AD (fun _=>if Bf f then none else _) _ st=if Bf f then none else _
   induction Bf f using bc <;> rfl
  |ok r s'=>
   induction r using Res.casesOn with
   |f fl=>
    show AD (fun _=>if Bf f then (match fz st.hp.length s'.hp 4 (ET fl) with | some v=>some (Out.ok (Res.v v) st) | none=>none) else _) _ st=if Bf f then (match fz st.hp.length s'.hp 4 (ET fl) with | some v=>some (Out.ok v st) | none=>none) else _
    induction Bf f using bc with
    |false=>rfl
    |true=>induction fz st.hp.length s'.hp 4 (ET fl) using oc <;> rfl
   |_=>rfl
theorem IU {as:List V}:Ih.v (step ih) (.call f as) st=match CZ f fns with
  |none=>none
  |some fn=>match Bh fn as with
   |none=>none
   |some l=>Ff f st (ih.f (.exs fn.body) (B0 f fn l st)):=by
 have e:step ih (.call f as) st=match CZ f fns with
  |none=>none
  |some fn=>match Bh fn as with
   |none=>none
   |some l=>Nt f st (ih (.exs fn.body) (B0 f fn l st)):=rfl
 show Ih.v (fun _ _=>step ih (.call f as) st) (.call f as) st=_
 rw [e]
 induction CZ f fns using oc with
 |none=>rfl
 |some fn=>
  show Ih.v (fun _ _=>match Bh fn as with | none=>none | some l=>Nt f st (ih (.exs fn.body) (B0 f fn l st))) (.call f as) st=match Bh fn as with | none=>none | some l=>Ff f st (ih.f (.exs fn.body) (B0 f fn l st))
  induction Bh fn as using oc with
  |none=>rfl
  |some l=>exact Yd (t':=.exs fn.body) (st':=B0 f fn l st) _
set_option backward.match.sparseCases true in
noncomputable def OX:Flow->Value
 | .ret v=>v
 |_=>.none
theorem FR.val {x:Fl} (h:FR P φ ρ fl x):VR P φ ρ (OX fl) (ET x):=by
 cases h with
 |ret h=>exact h
 |next=>exact .none
 |brk=>exact .none
 |cont=>exact .none
theorem AK.noLimit (H:AK AB w A AA Z φ ρ st h):h.NoLimit:=
 ⟨_,(LC (a:=cStatics) H.gl.kk (by kernel_rfl)).ns H.rel,by kernel_rfl⟩
def Q0 (AB:Program) (w:World) (A:Around) (AA:Env) (Z:List Addr) (φ:Fz) (ρ:AZ) (st:S) (s:Shared) (f:Nat) (vs:List Value) (l:Loc):Prop:=∀(Q:List (Str × Value)->Shared->Prop) (E:Value->Shared->Prop),
 (∀AE h' tk bs,Le φ AE->(∀a o,AE a=some o->φ a=none->s.heap.get? a=none)->(∀b o,s.heap.get? b=some o->h'.get? b=some o)->AK AB w A AA Z AE ρ st h'->Dg w.params AE ρ bs l->bs.map (·.1)=(Aj f).params++(Aj f).rest.toList->Q bs {s with heap:=h',toks:=tk})->
  wpAny (model AB w) A.in1 (bindArgs (CK w.params f) ⟨vs,[]⟩) Q E s
set_option backward.match.sparseCases true in
theorem Rn (A6:A.frames=some fr) (JS:A.depth<recursionLimit) (hu:A.units+110<cLine)
  (hS:∀(A3:Env) (L:Addr),A3.frame=some L->∀(ss:List Stmt) (st:S),BO AB w (A.deeper A3) A3 (execs ss A3) st (ih.f (.exs ss) st))
  (hk:f∈HZ) (H:AK AB w A AA Z φ ρ st s.heap) (hb:Q0 AB w A AA Z φ ρ st s f vs l)
  (N:As AB w A AA Z φ ρ st s (Ff f st (ih.f (.exs (Aj f).body) (B0 f (Aj f) l st))) Q E) :
  codeAny (model AB w) A (.call (.ref (DC f)) ⟨vs,[]⟩) (fun r s'=>match r with | .ok (.ret v)=>Q v s' | .ok _=>False | .error e=>E e s') s:=by
 have F:Lb w.params f (Aj f) (CK w.params f):=by
  obtain ⟨fn,h1⟩:=Tt hk
  have:=(L6 h1).2
  rw [<-this]
  exact Sl h1 w.params
 have X:=H.CR
 have Oo:s.heap.CodeRec (CK w.params f).code (CK w.params f).qualname:=by
  obtain ⟨c,o,ws,t,c1,c2,c3,c4⟩:=F.code
  exact ⟨c,o,ws,t,c1,X _ _ c2,c3,c4⟩
 refine codeAny_call_function JS (X _ _ F.obj) rfl F.co F.gen F.body Oo ?_
 refine hb _ _ fun AY AH tk bs le new E0 H1 br nm=>?_
 rw [F.cl]
 have par:∀x∈bs,(CK w.params f).scope.names.lookup x.1=some .local\/(CK w.params f).scope.names.lookup x.1=some .cell:=fun x m=>by
  have m':x.1∈(Aj f).params++(Aj f).rest.toList:=nm ▸ List.mem_map_of_mem m
  have:=List.all_eq_true.mp F.par _ m'
  rw [F.names]
  simpa using this
 have nd:(bs.map (·.1)).Nodup:=by rw [nm];exact F.nd
 refine wpAny_newFunctionEnv_cells (s:={s with heap:=AH,toks:=tk}) F.kind (fun x m=>?_) fun A3 he BX x=>?_
 .rcases par x m with q | q
  .exact .inl q
  .obtain ⟨c,hc⟩:=Lq (n:=AH.objs.size+1) q
   exact .inr ⟨q,by rw [show ({s with heap:=AH,toks:=tk}:Shared).heap.objs.size+1=AH.objs.size+1 from rfl,hc];rfl⟩
 have TQ:=H.tb.lo
 have TR:=H.lo
 have Bc:1<=(if Bf f=true then st.hp.length else st.lo)/\(if Bf f=true then st.hp.length else st.lo)<=st.hp.length:=by
  split
  .exact ⟨bg TQ TR,ao _⟩
  .exact ⟨TQ,TR⟩
 obtain ⟨H2,dead,PX,FQ⟩:=enter F (s:={s with heap:=AH,toks:=tk}) H1 br nd (DC f) A6 hu he x Bc
 obtain ⟨AR,Qk,q⟩:=x.toInCall.same
 have q:BX={s with heap:=AR,toks:=Qk}:=q
 clear x
 subst q
 have hl:A3.frame=some A3.locals:=by rw [he];rfl
 have kk:∀b o,s.heap.get? b=some o->AR.get? b=some o:=fun b o e=>PX b o (E0 b o e)
 have hZ:∀a∈El A3 (Aj f).sc,s.heap.get? a=none:=fun a m=>by
  induction q:s.heap.get? a using oc with
  |none=>rfl
  |some o=>have:=dead a m;rw [show ({s with heap:=AH,toks:=tk}:Shared).heap.get? a=AH.get? a from rfl,E0 a o q] at this;cases this
 have lives:∀a,s.heap.get? a≠none->AR.get? a≠none:=fun a n=>by
  induction q:s.heap.get? a using oc with
  |none=>exact absurd q n
  |some o=>exact A8 (kk a o q)
 refine ⟨H2.noLimit,codeAny_func ?_⟩
 refine hS A3 A3.locals hl (Aj f).body (B0 f (Aj f) l st) AY ρ _ _ _ _ H2 ⟨fun z=>N.ne (by rw [z];rfl),fun fl st' z rv AE ρ' h' CI GC p=>?_,fun c st' z ev AE ρ' h' CI HY p=>?_⟩
 .rw [z] at N
  unfold Ff at N
  have TY:=GC.val
  induction hp:Bf f using bc with
  |false=>
   rw [hp] at N
   have Kz:(B0 f (Aj f) l st).lo=st.lo:=by unfold B0;rw [hp];rfl
   exact N.ok _ _ rfl (OX rv) AE ρ' h' CI TY (Al.leave (st2:=B0 f (Aj f) l st) H le new kk hZ A6 FQ rfl rfl Kz rfl p)
  |true=>
   rw [hp] at N
   have Kz:(B0 f (Aj f) l st).lo=st.hp.length:=by unfold B0;rw [hp];rfl
   dsimp only at N
   rw [ak rfl] at N
   induction hz:fz st.hp.length st'.hp 4 (ET fl) using oc with
   |none=>rw [hz] at N;exact (N.ne rfl).elim
   |some v'=>
    rw [hz] at N
    refine N.ok v' st rfl (OX rv) (DQ AE ρ ρ' h') ρ h' CI ?_ (Al.drop (st2:=B0 f (Aj f) l st) H le new kk hZ A6 FQ rfl rfl Kz rfl p)
    rw [<-H.rel.len] at hz
    exact cA p.rel p.ext.pf 4 hz TY
 .rw [z] at N
  unfold Ff at N
  induction hp:Bf f using bc with
  |true=>rw [hp] at N;exact (N.ne rfl).elim
  |false=>
   rw [hp] at N
   have Kz:(B0 f (Aj f) l st).lo=st.lo:=by unfold B0;rw [hp];rfl
   unfold leaving
   refine ah (Ji (s:={s with heap:=h',toks:=CI}) FQ hl H2 p HY fun h3 p3 f3=>GQ (s:={s with heap:=h3,toks:=CI}) H2 p3 f3 fun h4 p4 f4=>?_)
   exact N.ex c _ rfl ev AE ρ' h4 CI ((f4.HY (.inl rfl)).le lives) (Al.leave (st2:=B0 f (Aj f) l st) H le new kk hZ A6 FQ rfl rfl Kz rfl p4)
theorem Yh (A6:A.frames=some fr) (JS:A.depth<recursionLimit) (hu:A.units+110<cLine)
  (hS:∀(A3:Env) (L:Addr),A3.frame=some L->∀(ss:List Stmt) (st:S),BO AB w (A.deeper A3) A3 (execs ss A3) st (ih.f (.exs ss) st)):GY AB w A AA (step ih):=by
 intro f as vs φ ρ Z st s Q E hf H hv N
 rw [IU] at N
 induction h1:CZ f fns using oc with
 |none=>rw [h1] at N;exact (N.ne rfl).elim
 |some fn=>
  rw [h1] at N
  dsimp only at N
  induction h2:Bh fn as using oc with
  |none=>rw [h2] at N;exact (N.ne rfl).elim
  |some l=>
   rw [h2] at N
   dsimp only at N
   obtain ⟨hk,e⟩:=L6 h1
   rw [e] at h2 N
   exact Rn A6 JS hu hS hk H (fun Q E h=>Rg hk hf H hv h2 h) N
theorem Lf.as (x:Lf A φ ρ Z h) (hh:A'.handled=A.handled):Lf A' φ ρ Z h:=by
 obtain ⟨x,ox,vs,a1,a2,a3,a4,a5,a6,a7⟩:=x
 exact ⟨x,ox,vs,hh.trans a1,a2,a3,a4,a5,a6,a7⟩
theorem AK.as (H:AK AB w A AA Z φ ρ st h) (hf:A'.frames=A.frames) (hh:A'.handled=A.handled) (hu:A'.units+100<cLine):AK AB w A' AA Z φ ρ st h:=
 ⟨H.gl,H.rel,H.er,⟨by rw [hf];exact H.amb.fr,⟨fun q=>hh.trans (H.amb.hd.1 q),fun q=>(H.amb.hd.2 q).as hh⟩,hu⟩,H.lo,H.tb⟩
theorem Al.as (H:AK AB w A AA Z BS Ad AL AH) (hf:A'.frames=A.frames) (hh:A'.handled=A.handled) (p:Al AB w A' AA Z φ ρ st h AE ρ' st' h'):Al AB w A AA Z φ ρ st h AE ρ' st' h':=
 ⟨p.rel,p.er,⟨by rw [<-hf];exact p.amb.fr,⟨fun q=>hh.symm.trans (p.amb.hd.1 q),fun q=>(p.amb.hd.2 q).as hh.symm⟩,H.amb.un⟩,p.ext,p.lo,p.sc,p.hd,p.pre⟩
theorem Ar.as {α β:Type} {C:Fz->AZ->β->α->Prop} {o:Option (Out α)} {Q:β->Shared->Prop} (H:AK AB w A AA Z φ ρ st s.heap) (hf:A'.frames=A.frames) (hh:A'.handled=A.handled) (N:Ar AB w A AA C Z φ ρ st s o Q E):Ar AB w A' AA C Z φ ρ st s o Q E:=
 ⟨N.ne,fun x st' e rv AE ρ' h' tk v p=>N.ok x st' e rv AE ρ' h' tk v (p.as H hf hh),fun c st' e ev AE ρ' h' tk f p=>N.ex c st' e ev AE ρ' h' tk f (p.as H hf hh)⟩
noncomputable def Dr (A:Around) (C:Addr) (vs:List Value):Around:=A.under (.builtin "type.__call__" ⟨.ref C::vs,[]⟩)
theorem vK {C:Addr}:(Code.builtin "type.__call__" ⟨.ref C::vs,[]⟩).envs=[]:=by kernel_rfl
theorem NG (C:Addr) (vs:List Value):(Dr A C vs).frames=A.frames/\(Dr A C vs).handled=A.handled/\(Dr A C vs).units=A.units+1/\(Dr A C vs).depth<=A.depth+1:=by
 refine ⟨?_,rfl,?_,?_⟩
 .show pushEnvs (Code.builtin "type.__call__" ⟨.ref C::vs,[]⟩).envs A.frames=A.frames
  rw [vK];rfl
 .show A.units+(Code.builtin "type.__call__" ⟨.ref C::vs,[]⟩).cUnits=_
  rw [show (Code.builtin "type.__call__" ⟨.ref C::vs,[]⟩).cUnits=1 from by kernel_rfl]
 .show A.depth+(Code.builtin "type.__call__" ⟨.ref C::vs,[]⟩).weight<=_
  rw [show (Code.builtin "type.__call__" ⟨.ref C::vs,[]⟩).weight=1 from by kernel_rfl]
  exact ao _
theorem UQ {C:Addr} {x:O} (H:AK AB w A AA Z φ ρ st h) (ho:OR AB w φ (ρ++[(h.objs.size+1,some h.objs.size)]) ((h.push emptyDict).push (instObj C h.objs.size)) (h.objs.size+1,some h.objs.size) x) :
  Al AB w A AA Z φ ρ st h φ (ρ++[(h.objs.size+1,some h.objs.size)]) {st with hp:=st.hp++[x]} ((h.push emptyDict).push (instObj C h.objs.size)):=by
 have e1:((h.push emptyDict).push (instObj C h.objs.size)).get? (h.objs.size+1)=some (instObj C h.objs.size):=by
  have:=au (h.push emptyDict) (o:=instObj C h.objs.size) rfl
  rw [Heap.size_push] at this
  exact this
 have e2:((h.push emptyDict).push (instObj C h.objs.size)).get? h.objs.size=some emptyDict:=bf _ (au _ rfl)
 exact H.Ll x (fun b o e=>bf _ (bf _ e)) (Heap.get?_none_of_le (Nat.le_succ _)) (A8 e1) (fun b q=>by obtain rfl:=aa q;exact ⟨EE h,A8 e2,Nat.ne_of_lt (Nat.lt_succ_self _)⟩) ho H.lo
theorem Ti {C:Addr}:((h.push emptyDict).push (instObj C h.objs.size)).get? (h.objs.size+1)=some (instObj C h.objs.size)/\((h.push emptyDict).push (instObj C h.objs.size)).get? h.objs.size=some emptyDict:=by
 refine ⟨?_,bf _ (au _ rfl)⟩
 have:=au (h.push emptyDict) (o:=instObj C h.objs.size) rfl
 rw [Heap.size_push] at this
 exact this
theorem T3 (H:AK AB w A AA Z φ ρ st h):(ρ++[p])[st.hp.length]? = some p:=by rw [<-H.rel.len];simp
theorem nI (hu:A.units+101<cLine) (hc:∀vs,GY AB w (Dr A 81 vs) AA ih):NZ AB w A AA ih:=by
 intro as vs φ ρ Z st s Q E H hv N
 have K:=H.CR
 obtain ⟨h,g,d,t,os⟩:=s
 refine wpAny_call (make_core (makes_of (K:=KK w.params) K (by kernel_rfl)) (looks_findIn (r:=some (.ref 77)) K (by kernel_rfl)) (fun self=>bind_fn K self (by kernel_rfl)) (.inl rfl) ?_)
 obtain ⟨e1,e2⟩:=Ti (h:=h) (C:=81)
 have Ah:=UQ (x:=.node none none none) (C:=81) H ⟨h.objs.size,#[],rfl,e1,e2,trivial,trivial,trivial⟩
 have H1:=H.after (s:=⟨h,g,d,t,os⟩) Ah
 have N1:As AB w A AA Z φ _ _ ⟨(h.push emptyDict).push (instObj 81 h.objs.size),g,d,t,os⟩ (AD (ih.v (.call 1001 (.ref st.hp.length::as))) (fun r=>match r with | .none=>AF (V.ref st.hp.length) | _=>AG) {st with hp:=st.hp++[.node none none none]}) Q E:=N.after Ah t
 have hr:=T3 H (p:=(h.objs.size+1,some h.objs.size))
 obtain ⟨a1,a2,a3,a4⟩:=NG (A:=A) 81 vs
 refine codeAny_mono (hc vs 1001 (.ref st.hp.length::as) (.ref (h.objs.size+1)::vs) φ _ Z _ ⟨(h.push emptyDict).push (instObj 81 h.objs.size),g,d,t,os⟩ (fun v s'=>v = .none/\Q (.ref (h.objs.size+1)) s') E (by decide) (H1.as a1 a2 (by omega)) (.cons (.ref hr) (hv.mono Ah.ext.le Ah.ext.pf))
  (Ar.as H1 a1 a2 ⟨fun q=>N1.ne (BQ q),fun x st' q rv AE ρ' h' tk vv p=>?_,fun c st' q ev AE ρ' h' tk f p=>N1.ex c st' (Bu q) ev AE ρ' h' tk f p⟩)) fun r s' z=>?_
 .have N2:=N1.cast (AJ q)
  induction x using V.casesOn with
  |none=>
   obtain rfl:=vv.none_inv
   exact ⟨rfl,N1.ok _ _ (AJ q) _ AE ρ' h' tk (.ref (p.ext.pf.get hr)) p⟩
  |_=>exact (N2.ne rfl).elim
 .rcases r with e | (v | _ | _ | _) <;> first | exact z | exact z.elim
theorem YL (H:AK AB w A AA Z φ ρ st s.heap) {x:Value} {v:V} (hv:VR w.params φ ρ x v) (hl:Bh (Aj 1002) [v,.none]=some l):Q0 AB w A AA Z φ ρ st s 1002 [x] l:=by
 intro Q E h
 have e:(KK w.params).lookup 107=some ⟨.type "tuple",none,.seq #[.none] 0,#[]⟩:=by kernel_rfl
 obtain ⟨k,k1,k2⟩:=YB w.params x
 have hd:(CK w.params 1002).defaults = .ref 107:=by kernel_rfl
 rw [k1,hd]
 refine ah (wpAny_seqItems (H.CR _ _ e) rfl ?_)
 rw [k2]
 have e2:Bh (Aj 1002) [v,.none]=some ([("self",v),("graph",.none)]:Loc):=by kernel_rfl
 rw [e2] at hl
 obtain rfl:=aa hl
 refine aq (h φ s.heap s.toks _ (.refl _) (fun a o x y=>by rw [y] at x;exact nn x) (fun _ _ e=>e) H (.cons hv (.cons .none .nil)) ?_)
 kernel_rfl
theorem nJ (A6:A.frames=some fr) (JS:A.depth+1<recursionLimit) (hu:A.units+111<cLine)
  (hS:∀(A3:Env) (L:Addr),A3.frame=some L->∀(ss:List Stmt) (st:S),BO AB w ((Dr A 178 []).deeper A3) A3 (execs ss A3) st (ih.f (.exs ss) st)):KJ AB w A AA (step ih):=by
 intro φ ρ Z st s Q E H N
 have K:=H.CR
 obtain ⟨h,g,d,t,os⟩:=s
 refine wpAny_call (make_core (makes_of (K:=KK w.params) K (by kernel_rfl)) (looks_findIn (r:=some (.ref 114)) K (by kernel_rfl)) (fun self=>bind_fn K self (by kernel_rfl)) (.inl rfl) ?_)
 obtain ⟨e1,e2⟩:=Ti (h:=h) (C:=178)
 have Ah:=UQ (x:=.inst []) (C:=178) H ⟨Nat.zero_le _,h.objs.size,fun _=>none,rfl,e1,⟨_,#[],0,e2,rfl,fun e m=>by simp at m,List.Pairwise.nil,fun _=>rfl⟩,fun a=>trivial⟩
 have H1:=H.after (s:=⟨h,g,d,t,os⟩) Ah
 have N1:As AB w A AA Z φ _ _ ⟨(h.push emptyDict).push (instObj 178 h.objs.size),g,d,t,os⟩ (AD (Ih.v (step ih) (.call 1002 [.ref st.hp.length,.none])) (fun r=>match r with | .none=>AF (V.ref st.hp.length) | _=>AG) {st with hp:=st.hp++[.inst []]}) Q E:=N.after Ah t
 have hr:=T3 H (p:=(h.objs.size+1,some h.objs.size))
 obtain ⟨a1,a2,a3,a4⟩:=NG (A:=A) 178 []
 have hk:CZ 1002 fns=some (Aj 1002):=by kernel_rfl
 have N2:As AB w (Dr A 178 []) AA Z φ (ρ++[(h.objs.size+1,some h.objs.size)]) {st with hp:=st.hp++[.inst []]} ⟨(h.push emptyDict).push (instObj 178 h.objs.size),g,d,t,os⟩ (Ih.v (step ih) (.call 1002 [.ref st.hp.length,.none]) {st with hp:=st.hp++[.inst []]}) (fun v s'=>v = .none/\Q (.ref (h.objs.size+1)) s') E:=by
  refine Ar.as H1 a1 a2 ⟨fun q=>N1.ne (BQ q),fun x st' q rv AE ρ' h' tk vv p=>?_,fun c st' q ev AE ρ' h' tk f p=>N1.ex c st' (Bu q) ev AE ρ' h' tk f p⟩
  have N2:=N1.cast (AJ q)
  induction x using V.casesOn with
  |none=>
   obtain rfl:=vv.none_inv
   exact ⟨rfl,N1.ok _ _ (AJ q) _ AE ρ' h' tk (.ref (p.ext.pf.get hr)) p⟩
  |_=>exact (N2.ne rfl).elim
 rw [IU,hk] at N2
 dsimp only at N2
 induction hl:Bh (Aj 1002) [.ref st.hp.length,.none] using oc with
 |none=>rw [hl] at N2;exact (N2.ne rfl).elim
 |some l=>
  rw [hl] at N2
  refine codeAny_mono (Rn (A:=Dr A 178 []) (f:=1002) (s:=⟨(h.push emptyDict).push (instObj 178 h.objs.size),g,d,t,os⟩) (a1.trans A6) (by omega) (by omega) hS (by decide) (H1.as a1 a2 (by omega)) (YL (H1.as a1 a2 (by omega)) (.ref hr) hl) N2) fun r s' z=>?_
  rcases r with e | (v | _ | _ | _) <;> first | exact z | exact z.elim
theorem qQ {as:List Expr} {a:Nat} (h:a≠96):QK ih as (.glob a)=AG:=aj fun q=>h (of_decide_eq_true q)
theorem aO {p q:Pos} {as:List Expr}:Ih.f (step ih) (.ex (.Raise (some (.Call (.Name x p) as [] q)) none pos))=Iv ih (x,p) as:=Dk rfl
theorem o9 (h:Hx e c=some q):∃p,e=some (.Call (.Name q.1.1 q.1.2) q.2 [] p)/\c=none:=by
 induction c using oc with
 |some c=>exact nn h
 |none=>
  obtain ⟨k,h1,h2⟩:=FE h
  obtain ⟨e',h0,h1⟩:=FE h1
  obtain ⟨h3,h4⟩:=Cu h2
  obtain ⟨x,h5,h6⟩:=Option.map_eq_some_iff.mp h4
  rw [h0,Yc h1,Hs h5,List.isEmpty_iff.mp h3,<-h6]
  exact ⟨_,rfl,rfl⟩
theorem nR {as:List Expr} (h:DW as=true):(backTo pos (starEach as AA)).any (·.1)=false:=by
 unfold DW at h
 have:=Ug (AA:=AA) (pos:=pos) (Bool.and_eq_true_iff.mp h).1
 rw [List.any_eq_false]
 intro x m
 have:=List.all_eq_true.mp this x m
 simpa using this
theorem dG (he:∀e st,Au AB w A AA (eval e AA) st (ih.v (.ev e) st)) {p q:Pos} {as:List Expr} :
  BO AB w A AA (exec (.Raise (some (.Call (.Name x p) as [] q)) none pos) AA) st (Ih.f (step ih) (.ex (.Raise (some (.Call (.Name x p) as [] q)) none pos)) st):=by
 intro φ ρ Z s E Q H N
 rw [aO] at N
 by_cases h0:st.hd=0
 .have N:Cp AB w A AA Z φ ρ st s ((if DW as then AD (ih.v (.ev (.Name x p))) (QK ih as) else AG) st) Q E:=N.cast (ak h0)
  by_cases hn:DW as=true
  .rw [ak hn] at N
   obtain @⟨nm,qq,NN,bs,bm,hdct,sn,sub,ab,col,dd,k0,k1,k2,k3,k5,newId,initId,mN,x1,x2,x3,x4⟩:=H.gl.cyc
   refine wpAny_Raise_call_sub (C:=96) (nm:=nm) (q:=qq) (N:=NN) (bs:=bs) (hdct:=hdct) (sn:=sn) (sub:=sub) (ab:=ab) (col:=col) (dd:=dd) (k0:=k0) (k1:=k1) (k2:=k2) (k3:=k3) (k5:=k5) x1 (mN:=mN) (H.amb.hd.1 h0) (nR hn) x4 ((he (.Name x p) st).BH H N fun f AL rf AY Ad AH AO vf H1 Ah N1=>?_)
   induction f using V.casesOn with
   |glob a=>
    by_cases ha:a=96
    .subst ha
     obtain rfl:=vf.Ib
     refine ⟨rfl,?_⟩
     have N2:Cp AB w A AA Z AY Ad AL {s with heap:=AH,toks:=AO} (AD (BG ih as) (fun l=>if l.length<=1000 then DL "CycleError" else AG) AL) Q E:=N1.cast (congrFun (ak rfl) AL)
     refine (Ko he as AL).BH (s:={s with heap:=AH,toks:=AO}) H1 N2 fun l st2 a Ab Ae AR Aw va H2 AW N3=>?_
     by_cases hl:l.length<=1000
     .rw [ak hl] at N3
      refine ⟨va.1,CS (by rw [va.2.length];exact hl),H2.rel.fz _ _ ((Ah.ext.le.trans AW.ext.le) _ _ x2),(x3.mono (Ah.ext.le.trans AW.ext.le)).ns H2.rel,fun h' e m=>?_⟩
      obtain ⟨t,ht,_⟩:=m.there
      obtain ⟨hh,hE⟩:=N3.raised
      have hd2:st2.hd=0:=by rw [AW.hd,Ah.hd,h0]
      have Ez:starred st2 "CycleError" = "CycleError":=by unfold starred;rw [ak hd2]
      refine hE (.ref e) h' Aw ?_ (H2.grow m.keeps)
      rw [Ez]
      exact ⟨e,_,_,rfl,m.new,fun z=>H2.rel.th e z m.new,H2.fresh m.new,ht,rfl,rfl,by simp,fun _=>rfl,.inl rfl⟩
     .rw [aj hl] at N3;exact (N3.ne rfl).elim
    .rw [qQ ha] at N1;exact (N1.ne rfl).elim
   |_=>exact (N1.ne rfl).elim
  .rw [aj hn] at N;exact (N.ne rfl).elim
 .exact (N.ne (aj h0)).elim
noncomputable def EN (AA:Env):List (Str × NameKind)->List (Str × Addr)->List (Str × Addr)
 | [],AM=>AM
 | (n,k)::r,AM=>if k == .free then EN AA r ((n,(AA.cells.lookup n).getD 0)::AM) else EN AA r AM
theorem Nx {n:Str} {k:NameKind} {AM:List (Str × Addr)}:EN AA ((n,k)::r) AM=if k == .free then EN AA r ((n,(AA.cells.lookup n).getD 0)::AM) else EN AA r AM:=rfl
theorem Rp (h:∀x∈scope.names,x.2 = .free->∃c,AA.cells.lookup x.1=some c):closureFor scope AA=pure (EN AA scope.names []):=by
 have key:∀(names:List (Str × NameKind)) (AM:List (Str × Addr)),(∀x∈names,x.2 = .free->∃c,AA.cells.lookup x.1=some c)->
   ∀f:Str × NameKind->List (Str × Addr)->Sem (ForInStep (List (Str × Addr))),(∀n k cs,f (n,k) cs=if k == .free then (do let a <- cellOf AA n;pure (.yield ((n,a)::cs))) else pure (.yield cs))->
   (forIn names AM f:Sem _)=pure (EN AA names AM):=by
  intro names
  induction names with
  |nil=>intro AM _ f _;rfl
  |cons x r ih=>
   intro AM h f hf
   obtain ⟨n,k⟩:=x
   rw [List.forIn_cons,hf]
   rw [Nx]
   by_cases q:(k==NameKind.free)=true
   .rw [ak q,ak q]
    obtain ⟨c,hc⟩:=h (n,k) (.head _) (eq_of_beq q)
    have e:cellOf AA n=pure c:=by unfold cellOf;rw [hc]
    rw [e,hc]
    exact ih _ (fun x m=>h x (.tail _ m)) f hf
   .rw [aj q,aj q]
    exact ih _ (fun x m=>h x (.tail _ m)) f hf
 simp only [closureFor]
 rw [key scope.names [] h _ (fun n k cs=>by dsimp only)]
 rfl
theorem Yz:∀{names:List (Str × NameKind)} {AM:List (Str × Addr)},x∉names.map (·.1)->(EN AA names AM).lookup x=AM.lookup x:=by
 intro Fc
 induction Fc with
 |nil=>
  intro AM _
  exact rfl
 |cons BN r AU=>
  obtain ⟨n,k⟩:=BN
  intro AM h
  rw [bq,List.mem_cons,not_or] at h
  rw [Nx]
  split
  .rw [AU h.2,List.lookup_cons]
   have:(x==n)=false:=by simpa using h.1
   rw [this]
  .exact AU h.2
theorem Yy {c:Addr} (hc:AA.cells.lookup x=some c):∀{names:List (Str × NameKind)} {AM:List (Str × Addr)},(names.map (·.1)).Nodup->(x,NameKind.free)∈names->(EN AA names AM).lookup x=some c:=by
 intro Fc
 induction Fc with
 |nil=>
  intro AM _ h
  cases h
 |cons BN r AU=>
  obtain ⟨n,k⟩:=BN
  intro AM nd h
  rw [bq,List.nodup_cons] at nd
  rw [Nx]
  rcases List.mem_cons.mp h with h | h
  .cases h
   rw [ak (by decide),Yz nd.1,List.lookup_cons,beq_self_eq_true,hc]
   rfl
  .split
   .exact AU nd.2 h
   .exact AU nd.2 h
theorem Yr:∀(names:List (Str × NameKind)) (n:Nat) (AM:List (Str × Addr)),cellsFrom n names AM=cellsFrom n names []++AM:=by
 intro Fc
 induction Fc with
 |nil=>
  intro n AM
  exact rfl
 |cons BN r AU=>
  obtain ⟨y,k⟩:=BN
  intro n AM
  unfold cellsFrom
  split
  .rw [AU (n+1) ((y,n)::AM),AU (n+1) [(y,n)],List.append_assoc]
   rfl
  .exact AU n AM
theorem UM:∀(a b:List (Str × α)),(a++b).lookup x=match a.lookup x with | some v=>some v | none=>b.lookup x:=by
 intro a_
 induction a_ with
 |nil=>
  intro b
  exact rfl
 |cons BN r AU=>
  obtain ⟨y,v⟩:=BN
  intro b
  rw [List.cons_append,List.lookup_cons,List.lookup_cons]
  cases x==y
  .exact AU b
  .rfl
set_option tactic.hygienic true in
theorem Yt:∀{names:List (Str × NameKind)} {n:Nat} {AM:List (Str × Addr)},(x,NameKind.cell)∉names->AM.lookup x=none->(cellsFrom n names AM).lookup x=none:=by
 intro Fc
 induction Fc with
 |nil=>
  intro n AM _ h
  exact h
 |cons BN r AU=>
  obtain ⟨y,k⟩:=BN
  intro n AM hn h
  rw [List.mem_cons,not_or] at hn
  unfold cellsFrom
  split
  .rename_i hk
   refine AU hn.2 ?_
   rw [List.lookup_cons]
   have:(x==y)=false:=by
    rw [beq_eq_false_iff_ne]
    rintro rfl
    exact hn.1 (by rw [eq_of_beq hk])
   rw [this]
   exact h
  .exact AU hn.2 h
theorem Mj:(relabel scope AA).names.lookup x=(scope.names.lookup x).map fun k=>if (k == .free&&AA.scope.kind == .function&&AA.kindOf x==some .cell)=true then .cell else k:=by
 show List.lookup x (scope.names.map _)=_
 generalize scope.names=l
 induction l with
 |nil=>rfl
 |cons p r ih=>
  obtain ⟨n,k⟩:=p
  rw [bq,List.lookup_cons]
  have e:(if (k == .free&&AA.scope.kind == .function&&AA.kindOf n==some .cell)=true then (n,NameKind.cell) else (n,k))=(n,if (k == .free&&AA.scope.kind == .function&&AA.kindOf n==some .cell)=true then NameKind.cell else k):=by
   split <;> rfl
  rw [e,List.lookup_cons]
  induction hx:x==n using bc with
  |false=>exact ih
  |true=>
   have e:x=n:=eq_of_beq hx
   subst e
   rfl
theorem P4 {k:NameKind}:∀{names:List (Str × NameKind)},(names.map (·.1)).Nodup->(x,k)∈names->names.lookup x=some k:=by
 intro Fc
 induction Fc with
 |nil=>
  intro _ h
  cases h
 |cons BN r AU=>
  obtain ⟨n,j⟩:=BN
  intro nd h
  rw [bq,List.nodup_cons] at nd
  rw [List.lookup_cons]
  rcases List.mem_cons.mp h with h | h
  .cases h;rw [beq_self_eq_true]
  .have:(x==n)=false:=by
    rw [beq_eq_false_iff_ne]
    intro e
    have:=List.mem_map_of_mem (f:=Prod.fst) h
    rw [show (x,k).fst=n from e] at this
    exact nd.1 this
   rw [this]
   exact AU nd.2 h
set_option tactic.hygienic true in
theorem VS {sc:Sc} (h:sc.lookup x=some .local\/sc.lookup x=some .cell):∀l:Loc,AN x (DA sc l)=none:=by
 intro l_
 induction l_ with
 |nil=>
  exact rfl
 |cons BN r AU=>
  obtain ⟨y,v⟩:=BN
  unfold DA
  rw [List.filter_cons]
  split
  .rename_i hq
   rw [Ca]
   by_cases e:(y==x)=true
   .have e:y=x:=eq_of_beq e
    subst e
    rcases h with h | h <;> simp [h] at hq
   .rw [aj e];exact AU
  .exact AU
theorem qe {sc:Sc} (h:sc.lookup x=some .free):∀l:Loc,AN x (DA sc l)=AN x l:=by
 intro l_
 induction l_ with
 |nil=>
  exact rfl
 |cons BN r AU=>
  obtain ⟨y,v⟩:=BN
  unfold DA
  rw [List.filter_cons]
  by_cases e:(y==x)=true
  .have e':y=x:=eq_of_beq e
   subst e'
   rw [ak (by simp [h])]
   rw [Ca,Ca,ak e,ak e]
  .have ih:=AU
   unfold DA at ih
   split
   .rw [Ca,Ca,aj e,aj e];exact ih
   .rw [ih,Ca,aj e]
def Dw (scope:Scope) (AA:Env) (n:Nat):Env:=compEnvC scope (cellsFrom (n+1) scope.names (EN AA scope.names [])) n AA
noncomputable def FF (h:Heap) (scope:Scope):Heap:=pushCells (h.push {cls:=.type "dict",data:=.dict #[]}) scope.names
theorem nK {M:Model} {Q:Env->Shared->Prop}
  (hQ:Q (newEnv scope s.heap.objs.size AA.globals (cellsFrom (s.heap.objs.size+1) scope.names cl) AA.qual none .none (some AA) builtinsNs) {s with heap:=FF s.heap scope}):wpAny M A (newFunctionEnv scope AA.globals cl [] AA.qual none .none (some AA)) Q E s:=by
 simp only [newFunctionEnv,Option.isSome_some,if_true]
 refine ah (wpAny_alloc ?_)
 refine ah (wpAny_layCells _ (fun name kind cells=>by cases gD:kind==NameKind.cell <;> simp [gD]) _ _ _ _ ?_)
 rw [show ({s with heap:=s.heap.push {cls:=.type "dict",data:=.dict #[]}}:Shared).heap.objs.size=s.heap.objs.size+1 from Heap.size_push ..]
 refine ah ?_
 rw [List.forIn_nil]
 exact aq (aq hQ)
inductive Wv (iter:Expr) (asy:Int) (scope:Scope):Prop
 |mk (a:asy=0) (b:JW iter=false) (k:scope.kind = .function) (n:(scope.names.map (·.1)).Nodup)
theorem Rw (h:IS iter asy scope=true):Wv iter asy scope:=by
 unfold IS at h
 simp only [Bool.and_eq_true,beq_iff_eq,Bool.not_eq_true',decide_eq_true_eq] at h
 exact ⟨h.1.1.1,h.1.1.2,h.1.2,h.2⟩
inductive W8 (AB:Program) (w:World) (A:Around) (AA:Env) (φ:Fz) (ρ:AZ) (st:S) (h:Heap) (scope:Scope):Prop
 |mk (H:AK AB w A (Dw scope AA h.objs.size) (El (Dw scope AA h.objs.size) scope.names) φ ρ {st with AA:=DA scope.names st.AA,sc:=scope.names} (FF h scope))
   (dead:∀b∈El (Dw scope AA h.objs.size) scope.names,h.get? b=none) (k:∀b o,h.get? b=some o->(FF h scope).get? b=some o) (cl:closureFor scope AA=pure (EN AA scope.names []))
set_option tactic.hygienic true in
theorem SA (H:AK AB w A AA Z φ ρ st h) (hs:AP st.sc scope.names=true) (hi:GH scope.names=false) (ho:IS iter asy scope=true) :
  W8 AB w A AA φ ρ st h scope:=by
 obtain ⟨_,_,gJ,nd⟩:=Rw ho
 have k:∀b o,h.get? b=some o->(FF h scope).get? b=some o:=fun b o e=>pushCells_keeps _ _ b o (bf _ e)
 have p:=H.grow k
 have ok:=cellsFrom_ok scope.names (h.push {cls:=.type "dict",data:=.dict #[]}) (h.objs.size+1) [] ⟨fun _ _ hm=>(nomatch hm),List.Pairwise.nil⟩ (by rw [Heap.size_push];exact ao _)
 rw [Heap.size_push] at ok
 have freeAt:∀x,(x,NameKind.free)∈scope.names->∃c,AA.cells.lookup x=some c:=fun x m=>by
  have:=List.all_eq_true.mp hs _ m
  have hx:st.sc.lookup x=some .cell\/st.sc.lookup x=some .free:=by simpa using this
  obtain ⟨c,ov,a,_⟩:=H.er.ce x hx
  exact ⟨c,a⟩
 have freeLk:∀x,scope.names.lookup x=some .free->st.sc.lookup x=some .cell\/st.sc.lookup x=some .free:=fun x e=>by
  have:=List.all_eq_true.mp hs _ (mem_of_lookup e)
  simpa using this
 have hcells:(Dw scope AA h.objs.size).cells=cellsFrom (h.objs.size+1) scope.names []++EN AA scope.names []:=Yr _ _ _
 have newAt:∀x,scope.names.lookup x=some .cell->∃c,(cellsFrom (h.objs.size+1) scope.names []).lookup x=some c/\(Dw scope AA h.objs.size).cells.lookup x=some c:=fun x e=>by
  obtain ⟨c,hc⟩:=Lq (n:=h.objs.size+1) e
  refine ⟨c,hc,?_⟩
  rw [hcells,UM,hc]
 have notCell:∀x,scope.names.lookup x=some .free->(x,NameKind.cell)∉scope.names:=fun x e m=>by
  rw [P4 nd m] at e;cases e
 have oldAt:∀x c,scope.names.lookup x=some .free->AA.cells.lookup x=some c->(Dw scope AA h.objs.size).cells.lookup x=some c:=fun x c e hc=>by
  rw [hcells,UM,Yt (notCell x e) rfl]
  exact Yy hc nd (mem_of_lookup e)
 have dead:∀b,h.objs.size<=b->h.get? b=none:=fun b q=>Heap.get?_none_of_le q
 have off:∀b,h.objs.size<=b->b∉Aa ρ/\φ b=none:=fun b q=>⟨fun m=>H.rel.th b m (dead b q),H.fresh (dead b q)⟩
 have hL:(FF h scope).get? h.objs.size=some {cls:=.type "dict",data:=.dict #[]}:=pushCells_keeps _ _ _ _ (au _ rfl)
 have inZ:∀b∈El (Dw scope AA h.objs.size) scope.names,b=h.objs.size\/∃y,(y,b)∈cellsFrom (h.objs.size+1) scope.names []:=fun b m=>by
  rcases List.mem_cons.mp m with m | m
  .exact .inl m
  .obtain ⟨q,hq,e⟩:=List.mem_filterMap.mp m
   split at e
   .rename_i hk
    right
    have hk:q.2 = .cell:=eq_of_beq hk
    obtain ⟨c,c1,c2⟩:=newAt q.1 (P4 nd (by rw [<-hk];exact hq))
    rw [c2] at e
    obtain rfl:=aa e
    exact ⟨q.1,mem_of_lookup c1⟩
   .exact nn e
 have geZ:∀b∈El (Dw scope AA h.objs.size) scope.names,h.objs.size<=b:=fun b m=>by
  rcases inZ b m with rfl | ⟨y,e⟩
  .exact ao _
  .exact Nat.le_of_lt (ok.empty y b e).2
 refine ⟨⟨H.gl,p.rel,?_,⟨p.amb.fr,⟨H.amb.hd.1,fun q=>?_⟩,H.amb.un⟩,H.lo,⟨H.tb.lo,H.tb.hp,H.tb.at_⟩⟩,fun b m=>dead b (geZ b m),k,Rp fun x m e=>freeAt x.1 (by rw [<-e];exact m)⟩
 .refine ⟨gJ,H.er.gl,H.er.bl,fun q=>?_,fun x e=>?_,fun x e=>?_,fun x e=>?_,fun x e=>?_,⟨fun _=>none,⟨_,#[],0,hL,rfl,fun e m=>by simp at m,fun _=>rfl⟩,fun x v e g=>?_⟩,fun x e=>?_,fun x y c e1 e2 e3 e4=>?_,.head _,fun b m=>?_⟩
  .rw [hi] at q;exact Bool.noConfusion q
  .exact Mj.trans (by rw [e];rfl)
  .exact Mj.trans (by rw [e];rfl)
  .have:=Mj (scope:=scope) (AA:=AA) (x:=x)
   have e:scope.names.lookup x=some .free:=e
   rw [e] at this
   have this:(Dw scope AA h.objs.size).kindOf x=_:=this
   rw [this]
   simp only [Option.map_some]
   split
   .exact .inl rfl
   .exact .inr rfl
  .exact Mj.trans (by rw [e];rfl)
  .rw [VS (.inl e)] at g;exact nn g
  .rcases e with e | e
   .obtain ⟨c,c1,c2⟩:=newAt x e
    obtain ⟨o1,o2⟩:=ok.empty x c (mem_of_lookup c1)
    obtain ⟨f1,f2⟩:=off c (Nat.le_of_lt o2)
    refine ⟨c,none,c2,o1,fun v g=>?_,f1,f2,Nat.ne_of_gt o2,fun _=>.tail _ (List.mem_filterMap.mpr ⟨_,mem_of_lookup e,c2⟩),fun q=>?_⟩
    .rw [VS (.inr e)] at g;exact nn g
    .have e:scope.names.lookup x=some .cell:=e
     have q:scope.names.lookup x=some .free:=q
     rw [e] at q;cases q
   .obtain ⟨c,ov,a1,⟨o,a2,Lj⟩,a3,a4,a5,a6,a7,a8⟩:=H.er.ce x (freeLk x e)
    refine ⟨c,ov,oldAt x c e a1,⟨o,k c o a2,Lj⟩,fun v g=>?_,a4,a5,fun q=>A8 a2 (dead c (by rw [q];exact ao _)),fun q=>?_,fun _ m=>A8 a2 (dead c (geZ c m))⟩
    .rw [qe e] at g;exact a3 v g
    .have e:scope.names.lookup x=some .free:=e
     have q:scope.names.lookup x=some .cell:=q
     rw [e] at q;cases q
  .obtain ⟨c1,d1,d2⟩:=newAt x e1
   obtain ⟨c2,d3,d4⟩:=newAt y e2
   rw [d2] at e3
   rw [d4] at e4
   obtain rfl:=aa e3
   obtain rfl:=aa e4
   exact name_of_addr ok.apart (mem_of_lookup d1) (mem_of_lookup d3)
  .obtain ⟨o1,o2⟩:=off b (geZ b m)
   refine ⟨o1,o2,?_⟩
   rcases inZ b m with rfl | ⟨y,e⟩
   .exact A8 hL
   .obtain ⟨⟨o,q,_⟩,_⟩:=ok.empty y b e
    exact A8 q
 .obtain ⟨y,oy,vs,a1,a2,a3,a4,a5,a6,a7⟩:=p.amb.hd.2 q
  obtain ⟨y',_,_,b1,b2,_⟩:=H.amb.hd.2 q
  rw [a1] at b1
  cases b1
  exact ⟨y,oy,vs,a1,a2,a3,a4,a5,a6,fun m=>A8 b2 (dead y (geZ y m))⟩
theorem AK.loose (H:AK AB w A AA Z φ ρ st h) (hd:st.hd=0) {o:Obj} (hD:h.get? D=some o) (h1:∀es n,o.data≠.dict es n) (h2:∀v,o.data≠.cell v) (hr:D∉Aa ρ) (hf:φ D=none)
  (hz:D∉Z) (k:∀b o,h.get? b=some o->b≠D->h'.get? b=some o):AK AB w A AA Z φ ρ st h':=by
 have live:∀b,b≠D->h.get? b≠none->h'.get? b≠none:=fun b e q=>by
  induction z:h.get? b using oc with
  |none=>exact absurd z q
  |some x=>exact A8 (k b x z e)
 have inr:∀a∈Aa ρ,a≠D:=fun a m e=>hr (e ▸ m)
 refine ⟨H.gl,⟨fun b x e=>k b x (H.rel.fz _ _ e) (fun q=>by rw [q,hf] at e;exact nn e),H.rel.len,fun i x q e1 e2=>(H.rel.ob i x q e1 e2).mono (.refl _) (.refl _) fun a ha y e=>k a y e (inr a (DV e2 ha)),H.rel.nd,H.rel.ap,fun a ha=>live a (inr a ha) (H.rel.th a ha)⟩,
  ⟨H.er.kind,H.er.gl,H.er.bl,H.er.cd,H.er.kl,H.er.kc,H.er.kf,H.er.kg,?_,fun x hx=>?_,H.er.inj,H.er.zl,fun a ha=>?_⟩,⟨?_,⟨H.amb.hd.1,fun q=>?_⟩,H.amb.un⟩,H.lo,H.tb⟩
 .obtain ⟨m,⟨ob,es,ep,a1,a2,a3⟩,hm⟩:=H.er.ns
  exact ⟨m,⟨ob,es,ep,k _ _ a1 (fun e=>h1 _ _ ((Be hD (e ▸ a1)) ▸ a2)),a2,a3⟩,hm⟩
 .obtain ⟨c,ov,a1,⟨ob,a2,Lj⟩,a3,a4,a5,a6⟩:=H.er.ce x hx
  exact ⟨c,ov,a1,⟨ob,k _ _ a2 (fun e=>h2 _ ((Be hD (e ▸ a2)) ▸ Lj)),Lj⟩,a3,a4,a5,a6⟩
 .obtain ⟨z1,z2,z3⟩:=H.er.zr a ha
  exact ⟨z1,z2,live a (fun e=>hz (e ▸ ha)) z3⟩
 .obtain ⟨l,e,r⟩:=H.amb.fr
  refine ⟨l,e,fun x hx=>⟨(r x hx).1,?_⟩⟩
  obtain ⟨L,ob,a1,a2,⟨es,n,a3⟩,a4,a5⟩:=(r x hx).2
  exact ⟨L,ob,a1,k _ _ a2 (fun e=>h1 _ _ ((Be hD (e ▸ a2)) ▸ a3)),⟨es,n,a3⟩,a4,a5⟩
 .rw [hd] at q;cases q
theorem Ext.loose (x:Ext φ ρ h Z AE ρ' h') (hD:h.get? D=none) (k:∀b o,h'.get? b=some o->b≠D->Ax.get? b=some o):Ext φ ρ h Z AE ρ' Ax:=by
 have old:∀b,h.get? b≠none->b≠D:=fun b n e=>n (e ▸ hD)
 refine ⟨x.le,x.pf,x.newF,x.newR,fun a n=>?_,fun b o e n z=>?_⟩
 .have:=x.live a n
  induction q:h'.get? a using oc with
  |none=>exact absurd q this
  |some o=>exact A8 (k a o q (old a n))
 .have bD:=old b (A8 e)
  rcases x.keep b o e n z with e' | ⟨d,sl,e'⟩
  .exact .inl (k _ _ e' bD)
  .exact .inr ⟨d,sl,k _ _ e' bD⟩
theorem Al.back (H:AK AB w A AA Z BS ρ st AS) (Hc:AK AB w A cenv Zc AE ρ' st' h') (X:Ext BS ρ AS Zc AE ρ' h') (hZ:∀a∈Zc,AS.get? a=none) (e2:st'.lo=st.lo) (e3:st'.hd=st.hd) (MG:st.hd=0) (e4:st'.hp.take st.lo=st.hp.take st.lo) :
  Al AB w A AA Z BS ρ st AS AE ρ' {st' with AA:=st.AA,sc:=st.sc} h':=by
 have old:∀b,AS.get? b≠none->b∉Zc:=fun b n m=>n (hZ b m)
 have kept:∀b o,AS.get? b=some o->b∉Aa ρ->Kept h' b o:=fun b o e n=>X.keep b o e n (old b (A8 e))
 refine ⟨Hc.rel,H.er.Jf X.le X.pf (fun b o e n _=>(kept b o e n).slots) (fun a m=>X.live a (H.er.zr a m).2.2) X.newF X.newR rfl rfl,⟨Hc.amb.fr,⟨fun _=>H.amb.hd.1 MG,fun q=>?_⟩,H.amb.un⟩,
  ⟨X.le,X.pf,X.newF,X.newR,X.live,fun b o e n z=>kept b o e n⟩,e2,rfl,e3,e4⟩
 have q:st'.hd=1:=q
 rw [e3,MG] at q
 cases q
noncomputable abbrev PI (AA:Env) (Ak:List Expr) (b:Bool):Sem Bool:=forIn Ak b fun c r=>if r=true then do let ok <- isTrue c AA (eval c AA);pure (ForInStep.yield ok) else pure (ForInStep.yield r)
theorem iO:∀(Ak:List Expr) {Q:Bool->Shared->Prop} {s:Shared},Q false s->wpAny (model AB w) A (PI AA Ak false) Q E s:=by
 intro PJ
 induction PJ with
 |nil=>
  intro Q s h
  exact aq h
 |cons c r AU=>
  intro Q s h
  show wpAny _ A (forIn (c::r) false _) Q E s
  rw [List.forIn_cons]
  exact ah (aq (AU h))
theorem dw (ht:∀e st,Bm AB w A AA (isTrue e AA (eval e AA)) st (ih.b (.ts e) st)):∀(Ak:List Expr) (st:S),Bm AB w A AA (PI AA Ak true) st (DE ih Ak st):=by
 intro PJ
 induction PJ with
 |nil=>
  intro st
  intro φ ρ Z s E Q H N
  exact aq (N.pure H s.toks)
 |cons c r AU=>
  intro st
  intro φ ρ Z s E Q H N
  have N:BK AB w A AA Z φ ρ st s (AD (ih.b (.ts c)) (fun b=>if b then DE ih r else AF false) st) Q E:=N
  show wpAny _ A (forIn (c::r) true _) Q E s
  rw [List.forIn_cons]
  simp -iota only [if_true]
  refine ah (ah ((ht c st).Fq H N fun b AL AY Ad AH AO H1 Ah N1=>aq ?_))
  induction b using bc with
  |true=>exact AU AL AY Ad Z _ E Q H1 N1
  |false=>exact iO r (N1.pure H1 AO)
theorem ZJ {it AM:Value} (I:Nat->Shared->Prop)
  (turn:∀n s,I n s->wpAny (model AB w) A (pyNext it) (fun r Ay=>match r with
   |none=>R (.ok .next) Ay
   |some v=>wpAny (model AB w) A (letOwnedTupleGo target it v) (fun _ Ay=>wpAny (model AB w) A (assign target AA v) (fun _ BX=>
     wpAny (model AB w) A (PI AA Ak true) (fun ok Hz=>
      if ok=true then wpAny (model AB w) A (eval Am AA) (fun x VK=>
       wpAny (model AB w) A (call (.builtin "list.append") [AM,x]) (fun _ s5=>∃m,m<n/\I m s5) (notedBy (model AB w) A AA fun e s'=>R (.error e) s') VK) (notedBy (model AB w) A AA fun e s'=>R (.error e) s') Hz
      else ∃m,m<n/\I m Hz) (notedBy (model AB w) A AA fun e s'=>R (.error e) s') BX) (notedBy (model AB w) A AA fun e s'=>R (.error e) s') Ay) (notedBy (model AB w) A AA fun e s'=>R (.error e) s') Ay) (notedBy (model AB w) A AA fun e s'=>R (.error e) s') s)
  (n:Nat) (h:I n s):codeAny (model AB w) A (.compLoop (.ListComp Am [⟨target,iter,Ak,0⟩] scope pos) 0 it AM AA) R s:=by
 refine codeAny_loop rfl I (fun n s hI=>?_) n h
 show wpAny _ A ((compTurn (.ListComp Am [⟨target,iter,Ak,0⟩] scope pos) 0 it AM AA).onRaise (fun x=>do noteFrame x AA;theTreesLotGoes x)) _ _ s
 refine wpAny_noted ?_
 rw [compTurn_list]
 refine ah (wpAny_standAt (ah (b9 (turn n s hI) (fun r Ay AH=>?_) fun _ _ h'=>h')))
 induction r using oc with
 |none=>exact aq AH
 |some v=>
  refine ah (b9 AH (fun _ Ay AH=>ah (b9 AH (fun _ BX AR=>ah (b9 AR (fun ok Hz BE=>?_) fun _ _ h'=>h')) fun _ _ h'=>h')) fun _ _ h'=>h')
  induction ok using bc with
  |false=>exact aq ⟨rfl,BE⟩
  |true=>
   exact ah (ah (b9 BE (fun x VK Cr=>ah (b9 Cr (fun _ s5 Cs=>aq (aq ⟨rfl,Cs⟩)) fun _ _ h'=>h')) fun _ _ h'=>h'))
theorem jE (hi:It w.params φ ρ s.heap it Ai kd n k) (h:Q (.ref it) s):wpAny (model AB w) A (pyIter (.ref it)) Q E s:=by
 cases hi with
 |lst _ hi=>exact wpAny_pyIter_listiter hi h
 |tup _ hi=>exact wpAny_pyIter_tupleiter hi h
 |list _ hi=>exact wpAny_pyIter_listiter hi h
 |keys _ hi=>exact wpAny_pyIter_keyiter hi h
 |vals _ hi=>exact wpAny_pyIter_valiter hi h
 |rng hi=>exact wpAny_pyIter_rangeiter hi h
theorem qh {v:V} {rv:Value} {l:List V} (H:AK AB w A AA Z φ ρ st h) (hv:VR w.params φ ρ rv v) (hs:Du st v kd l):l.length<=1000:=by
 cases hs with
 |rng n=>simpa using hv.VH
 |vals hh=>obtain ⟨_,_,_,hi,_⟩:=hv.Qv;obtain ⟨_,hn,_⟩:=H.rel.ob _ _ _ hh hi;simpa using hn
 |list hh=>obtain ⟨_,hi,_⟩:=hv.C8;obtain ⟨_,hn,_⟩:=H.rel.ob _ _ _ hh hi;exact hn
 |keys hh=>obtain ⟨_,hi,_⟩:=hv.C8;obtain ⟨_,hn,_⟩:=H.rel.ob _ _ _ hh hi;simpa using hn
 |lst=>exact hv.Iq
 |tup=>exact hv.J9
theorem ZC:C4 ih Am target Ak Ai kd n 0=AD (Bs Ai kd n n) fun o=>match o with | .none=>AF [] | some _=>AG:=rfl
theorem ZA {r:Nat}:C4 ih Am target Ak Ai kd n (r+1)=AD (Bs Ai kd n (n-(r+1))) fun o=>match o with
  | .none=>AG
  |some v=>AD (Ci ih v target) fun _=>AD (DE ih Ak) fun c=>if c then AD (ih.v (.ev Am)) fun x=>AD (C4 ih Am target Ak Ai kd n r) fun l=>AF (x::l) else C4 ih Am target Ak Ai kd n r:=rfl
structure Dh (AB:Program) (w:World) (A:Around) (cenv:Env) (Zc:List Addr) (AY:Fz) (Ad:AZ) (AL:S) (AH:Heap) (it D:Addr) (Ai:V) (kd:Bool) (n:Nat) (Ab:Fz) (Ae:AZ) (st2:S) (AR:Heap) (AM:List V) (k:Nat):Prop where
 H:AK AB w A cenv Zc Ab Ae st2 AR
 X:Ext AY Ad AH Zc Ab Ae AR
 lo:st2.lo=AL.lo
 hd:st2.hd=0
 pre:st2.hp.take AL.lo=AL.hp.take AL.lo
 i:It w.params Ab Ae AR it Ai kd n k
 i0:AH.get? it=none
 i1:it∉Aa Ae
 i2:Ab it=none
 d0:AH.get? D=none
 d1:D∉Aa Ae
 d2:Ab D=none
 zi:it∉Zc
 zd:D∉Zc
 di:D≠it
 a:∃xs m,AR.get? D=some (Ba xs m)/\AV w.params Ab Ae xs.toList AM
theorem Dh.after (c:Dh AB w A cenv Zc AY Ad AL AH it D Ai kd n Ab Ae st2 AR AM k) (p:Al AB w A cenv Zc Ab Ae st2 AR B9 B8 CH BE):Dh AB w A cenv Zc AY Ad AL AH it D Ai kd n B9 B8 CH BE AM k:=by
 obtain ⟨oi,vi,e1,e2⟩:=c.i.data
 obtain ⟨xs,m,e3,vl⟩:=c.a
 obtain ⟨a1,a2⟩:=p.ext.Mb (A8 e1) c.i1 c.i2
 obtain ⟨b1,b2⟩:=p.ext.Mb (A8 e3) c.d1 c.d2
 refine ⟨⟨c.H.gl.mono p.ext.le,p.rel,p.er,p.amb,p.lo_le c.H.lo,p.tabs c.H.tb⟩,c.X.trans p.ext,p.lo.trans c.lo,p.hd.trans c.hd,?_,?_,c.i0,a1,a2,c.d0,b1,b2,c.zi,c.zd,c.di,xs,m,(p.ext.keep D _ e3 c.d1 c.zd).exact (fun es n z=>by cases z),vl.mono p.ext.le p.ext.pf⟩
 .rw [<-c.lo,p.pre,c.lo,c.pre]
 .exact c.i.mono p.ext.le p.ext.pf (fun o e=>(p.ext.keep it o e c.i1 c.zi).exact (by rw [e1] at e;cases e;rw [e2];exact fun _ _ z=>by cases z))
theorem Dh.stir (c:Dh AB w A cenv Zc AY Ad AL AH it D Ai kd n Ab Ae st2 AR AM k) (kk:∀b o,AR.get? b=some o->b≠it->BE.get? b=some o):AK AB w A cenv Zc Ab Ae st2 BE/\Ext AY Ad AH Zc Ab Ae BE/\∃xs m,BE.get? D=some (Ba xs m)/\AV w.params Ab Ae xs.toList AM:=by
 obtain ⟨oi,vi,e1,e2⟩:=c.i.data
 obtain ⟨xs,m,e3,vl⟩:=c.a
 exact ⟨c.H.loose c.hd e1 (fun es n z=>by rw [e2] at z;cases z) (fun v z=>by rw [e2] at z;cases z) c.i1 c.i2 c.zi kk,c.X.loose c.i0 kk,xs,m,kk _ _ e3 c.di,vl⟩
theorem Dh.next (c:Dh AB w A cenv Zc AY Ad AL AH it D Ai kd n Ab Ae st2 AR AM k) (kk:∀b o,AR.get? b=some o->b≠it->BE.get? b=some o) (hi:It w.params Ab Ae BE it Ai kd n j):Dh AB w A cenv Zc AY Ad AL AH it D Ai kd n Ab Ae st2 BE AM j:=by
 obtain ⟨oi,vi,e1,e2⟩:=hi.data
 obtain ⟨H,X,a⟩:=c.stir kk
 exact ⟨H,X,c.lo,c.hd,c.pre,hi,c.i0,c.i1,c.i2,c.d0,c.d1,c.d2,c.zi,c.zd,c.di,a⟩
theorem Dh.push (c:Dh AB w A cenv Zc AY Ad AL AH it D Ai kd n Ab Ae st2 AR AM k) {x:V} {rx:Value} (hx:VR w.params Ab Ae rx x):Dh AB w A cenv Zc AY Ad AL AH it D Ai kd n Ab Ae st2 (AR.update D (Obj.mapSeq (·.push rx))) (AM++[x]) k:=by
 obtain ⟨xs,m,e3,vl⟩:=c.a
 have hu:(AR.update D (Obj.mapSeq (·.push rx))).get? D=some (Ba (xs.push rx) (if (xs.push rx).size==xs.size then m else m+1)):=bz _ e3 rfl
 have kk:∀b o,AR.get? b=some o->b≠D->(AR.update D (Obj.mapSeq (·.push rx))).get? b=some o:=fun b o q h1=>(Heap.get?_update_ne _ _ _ _ h1).trans q
 refine ⟨c.H.loose c.hd e3 (fun es n z=>by cases z) (fun v z=>by cases z) c.d1 c.d2 c.zd kk,c.X.loose c.d0 kk,c.lo,c.hd,c.pre,?_,c.i0,c.i1,c.i2,c.d0,c.d1,c.d2,c.zi,c.zd,c.di,_,_,hu,?_⟩
 .exact c.i.mono (.refl _) (.refl _) fun o e=>kk _ _ e (Ne.symm c.di)
 .rw [Array.toList_push]
  exact vl.append (.cons hx .nil)
noncomputable def fin (st:S) (AM:List V):Option (Out (List V))->Option (Out (List V))
 |some (.ok l s')=>some (.ok (AM++l) {s' with AA:=st.AA,sc:=st.sc})
 |_=>none
theorem Y9 {x:V} {sc:Sc}:F5 ih Am target Ak x kd n sc st=fin st [] (C4 ih Am target Ak x kd n n {st with AA:=DA sc st.AA,sc:=sc}):=rfl
theorem aZ {K:β->Shared->Prop} (ho:o≠none) (hf:fin AL AM (AD m g st)=o) (hk:∀x st' rv AE ρ' h' tk,C AE ρ' rv x->Al AB w A cenv Zc φ ρ st s.heap AE ρ' st' h'->fin AL AM (g x st')=o->K rv {s with heap:=h',toks:=tk}) :
  Ar AB w A cenv C Zc φ ρ st s (m st) K E:=
 ⟨fun q=>ho (hf ▸ (by rw [BQ q];rfl)),fun x st' q rv AE ρ' h' tk v p=>hk x st' rv AE ρ' h' tk v p (by rw [<-hf,AJ q]),fun c st' q _ _ _ _ _ _ _=>(ho (hf ▸ (by rw [Bu q];rfl))).elim⟩
theorem Sg {K:α->Shared->Prop} (ho:o≠none) (hf:fin AL AM (AD m g st)=o) (hk:∀x st' AE ρ' h' tk,Al AB w A cenv Zc φ ρ st s.heap AE ρ' st' h'->fin AL AM (g x st')=o->K x {s with heap:=h',toks:=tk}) :
  BK AB w A cenv Zc φ ρ st s (m st) K E:=
 ⟨fun q=>ho (hf ▸ (by rw [BQ q];rfl)),fun x st' q AE ρ' h' tk p=>hk x st' AE ρ' h' tk p (by rw [<-hf,AJ q]),fun c st' q _ _ _ _ _ _ _=>(ho (hf ▸ (by rw [Bu q];rfl))).elim⟩
inductive W9 (st AL:S) (AM:List V) (o:Option (Out (List V))) (Ai:V) (kd:Bool) (n k:Nat) (g:Option V->M (List V)):Prop
 |mk (l:List V) (hd:st.hd=0) (hs:Du st Ai kd l) (hl:l.length=n) (hf:fin AL AM (g l[k]? st)=o)
theorem Sh {g:Option V->M (List V)} (ho:o≠none) (hf:fin AL AM (AD (Bs Ai kd n k) g st)=o):W9 st AL AM o Ai kd n k g:=by
 induction q:Bs Ai kd n k st using oc with
 |none=>exact (ho (hf ▸ (by rw [BQ q];rfl))).elim
 |some r=>
  obtain ⟨hd,l,rfl,hs,hl⟩:=Wc q
  exact ⟨l,hd,hs,hl,by rw [<-hf,AJ q]⟩
inductive CompI (AB:Program) (w:World) (A:Around) (cenv:Env) (Zc:List Addr) (AY:Fz) (Ad:AZ) (AL:S) (AH:Heap) (it D:Addr) (Ai:V) (kd:Bool) (n:Nat) (s:Shared) (F:Nat->M (List V)) (o:Option (Out (List V))) (r:Nat) (BX:Shared):Prop
 |mk (hr:r<=n) (Ab:Fz) (Ae:AZ) (st2:S) (AR:Heap) (Aw:Nat) (AM:List V) (e:BX={s with heap:=AR,toks:=Aw}) (c:Dh AB w A cenv Zc AY Ad AL AH it D Ai kd n Ab Ae st2 AR AM (n-r)) (hl:AM.length+r<=n) (hf:fin AL AM (F r st2)=o)
theorem ZG {r:Nat} {x:V} (hn:n<=1000) (ho:o≠none) (hr:r+1<=n) (hlen:AM.length+(r+1)<=n)
  (c:Dh AB w A cenv Zc AY Ad AL AH it D Ai kd n Ab Ae st2 AR AM (n-r)) (vx:VR w.params Ab Ae rx x) (hf:fin AL AM (AD (C4 ih Am target Ak Ai kd n r) (fun l=>AF (x::l)) st2)=o) {K:Value->Shared->Prop}
  (hK:∀v s',CompI AB w A cenv Zc AY Ad AL AH it D Ai kd n s (C4 ih Am target Ak Ai kd n) o r s'->K v s'):wpAny (model AB w) A (call (.builtin "list.append") [.ref D,rx]) K E {s with heap:=AR,toks:=AO}:=by
 obtain ⟨xs,m,e3,vl⟩:=c.a
 have CQ:xs.size<=1000:=by rw [<-az,vl.length];exact bg (bg (Nat.le_add_right _ _) hlen) hn
 refine call_meets PySem.F.slot_list_append (s:={s with heap:=AR,toks:=AO}) ⟨_,e3,rfl⟩ PySem.F.entry_list_append (PySem.F.args_list_append_2 _ _) (list_append D xs m rx (CS CQ)) ⟨e3,hK _ _ ?_⟩
 refine ⟨Nat.le_of_succ_le hr,Ab,Ae,st2,_,AO,AM++[x],rfl,c.push vx,?_,?_⟩
 .rw [List.length_append,Nat.add_assoc,Nat.add_comm _ r];exact hlen
 .induction hz:C4 ih Am target Ak Ai kd n r st2 using oc with
  |none=>rw [BQ hz] at hf;exact (ho hf.symm).elim
  |some o'=>induction o' using uc with
   |ex c' s'=>rw [Bu hz] at hf;exact (ho hf.symm).elim
   |ok l s'=>
    rw [AJ hz] at hf
    rw [<-hf]
    show some (Out.ok (AM++[x]++l) _)=some (Out.ok (AM++(x::l)) _)
    rw [List.append_assoc]
    rfl
theorem ZF
  (he:∀e st,Au AB w A cenv (eval e cenv) st (ih.v (.ev e) st)) (ht:∀e st,Bm AB w A cenv (isTrue e cenv (eval e cenv)) st (ih.b (.ts e) st)) (hA:HF AB w A cenv) (hS:IF AB w A cenv)
  (hn:n<=1000) (ho:o≠none)
  (c:Dh AB w A cenv Zc AY Ad AL AH it D Ai kd n Ab Ae st2 s.heap [] 0) (hf:fin AL [] (C4 ih Am target Ak Ai kd n n st2)=o)
  (hR:∀AM AE ρ' st' h' tk,o=some (.ok AM {st' with AA:=AL.AA,sc:=AL.sc})->AK AB w A cenv Zc AE ρ' st' h'->Ext AY Ad AH Zc AE ρ' h'->st'.lo=AL.lo->st'.hd=0->st'.hp.take AL.lo=AL.hp.take AL.lo->D∉Aa ρ'->AE D=none->
   (∃xs m,h'.get? D=some (Ba xs m)/\AV w.params AE ρ' xs.toList AM)->R (.ok .next) {s with heap:=h',toks:=tk}) :
  codeAny (model AB w) A (.compLoop (.ListComp Am [⟨target,iter,Ak,0⟩] scope pos) 0 (.ref it) (.ref D) cenv) R s:=by
 refine ZJ (fun r BX=>CompI AB w A cenv Zc AY Ad AL AH it D Ai kd n s (C4 ih Am target Ak Ai kd n) o r BX) (fun r BX I=>?_) n ⟨ao _,Ab,Ae,st2,s.heap,s.toks,[],rfl,by rw [Nat.sub_self];exact c,by rw [List.length_nil,Nat.zero_add];exact ao _,hf⟩
 clear hf c
 obtain ⟨hr,Ab,Ae,st2,AR,Aw,AM,rfl,c,hlen,hf⟩:=I
 induction r using zc with
 |zero=>
  rw [ZC] at hf
  obtain ⟨l,hd,hs,hl,hf⟩:=Sh ho hf
  have en:l[n]? = none:=List.getElem?_eq_none (Nat.le_of_eq hl)
  have hi:=c.i
  rw [<-hl] at hi
  refine MU (s:={s with heap:=AR,toks:=Aw}) c.H hd hi hs (fun z BE kk=>?_) (fun y hy=>?_)
  .rw [en] at hf
   have hf:some (Out.ok (AM++[]) {st2 with AA:=AL.AA,sc:=AL.sc})=o:=hf
   rw [List.append_nil] at hf
   obtain ⟨H,X,a⟩:=c.stir kk
   exact hR AM Ab Ae st2 BE Aw hf.symm H X c.lo c.hd c.pre c.d1 c.d2 a
  .rw [hl] at hy
   exact nn (en.symm.trans hy)
 |succ r=>
  rw [ZA] at hf
  obtain ⟨l,hd,hs,hl,hf⟩:=Sh ho hf
  subst hl
  refine MU (s:={s with heap:=AR,toks:=Aw}) c.H hd c.i hs (fun z=>?_) (fun y hy rx BE tk vy Ku kk=>?_)
  .exact absurd (List.getElem?_eq_none_iff.mp z) (Nat.not_le.mpr (Nat.sub_lt (Nat.lt_of_lt_of_le (Nat.succ_pos r) hr) (Nat.succ_pos r)))
  .have Ri:=c.next kk Ku
   clear c hs kk
   rw [hy] at hf
   refine UH (s:={s with heap:=BE,toks:=tk}) Ku.obj (Kp (s:={s with heap:=BE,toks:=tk}) he hA hS Ri.H vy (Sg (m:=Ci ih y target) ho hf fun u CH B9 B8 Cr ND Bq hf=>?_))
   have Rj:=Ri.after Bq
   refine dw ht Ak CH B9 B8 Zc {s with heap:=Cr,toks:=ND} _ _ Rj.H (Sg ho hf fun b I4 HE HD Cs I7 p5 hf=>?_)
   have c5:=Rj.after p5
   rw [show l.length-(r+1)+1=l.length-r from Nat.succ_pred_eq_of_pos (Nat.sub_pos_of_lt hr)] at c5
   induction b using bc with
   |false=>
    rw [aj Bool.false_ne_true] at hf ⊢
    exact ⟨r,Nat.lt_succ_self r,Nat.le_of_succ_le hr,HE,HD,I4,Cs,I7,AM,rfl,c5,Nat.le_of_succ_le hlen,hf⟩
   |true=>
    rw [ak rfl] at hf ⊢
    refine he Am I4 HE HD Zc {s with heap:=Cs,toks:=I7} _ _ c5.H (aZ ho hf fun x st5 rx φ5 ρ5 Ew t6' vx p6 hf=>?_)
    exact ZG (s:=s) hn ho hr hlen (c5.after p6) vx hf fun v s' I=>⟨r,Nat.lt_succ_self r,I⟩
structure NU (AB:Program) (w:World) (A:Around) (AA:Env) (Z:List Addr) (φ:Fz) (ρ:AZ) (st:S) (s:Shared) (o:Option (Out (List V))) (K:Addr->Addr->Shared->Prop) (E:Value->Shared->Prop):Prop where
 ne:o≠none
 ok:∀AM st',o=some (.ok AM st')->∀AE ρ' h' tk D C xs m mC,Al AB w A AA Z φ ρ st s.heap AE ρ' st' h'->s.heap.get? D=none->D∉Aa ρ'->AE D=none->h'.get? D=some (Ba xs m)->AV w.params AE ρ' xs.toList AM->
  s.heap.get? C=none->C∉Aa ρ'->AE C=none->D≠C->h'.Ns C mC->K D C {s with heap:=h',toks:=tk}
 ex:∀c st',o=some (.ex c st')->∀e AE ρ' h' tk,Em AA s.heap AE ρ' h' e c->Al AB w A AA Z φ ρ st s.heap AE ρ' st' h'->E e {s with heap:=h',toks:=tk}
theorem ZD:comp ih Am target iter Ak asy sc st=if AP st.sc sc.names=true/\GH sc.names=false/\IS iter asy sc=true then
  AD (ih.v (.ev iter)) (fun x=>AD (Bg x) fun p=>F5 ih Am target Ak x p.1 p.2.length sc.names) st else none:=rfl
theorem bM {e:Expr} (h:JW e=false) (x:Value):foldedSetIterable e AA x=pure x:=by induction e using Expr.casesOn <;> first | rfl | (cases h;done)
theorem Rx (he:∀AA e st,Au AB w A AA (eval e AA) st (ih.v (.ev e) st)) (ht:∀AA e st,Bm AB w A AA (isTrue e AA (eval e AA)) st (ih.b (.ts e) st))
  {p:Pos}
  (H:AK AB w A AA Z φ ρ st s.heap) (N:NU AB w A AA Z φ ρ st s (comp ih Am target iter Ak asy scope st) K E) (hK:∀D C s',K D C s'->compPost (model AB w) A E use Q (.ref D) C (.ok .next) s') :
  asy=0/\wpAny (model AB w) A (comprehension (.ListComp Am [⟨target,iter,Ak,0⟩] scope pos) scope AA p (newList []) false (eval iter AA) use) Q E s:=by
 rw [ZD] at N
 by_cases hg:AP st.sc scope.names=true/\GH scope.names=false/\IS iter asy scope=true
 .rw [ak hg] at N
  obtain ⟨g1,g2,g3⟩:=hg
  obtain ⟨k1,k2,k3,k4⟩:=Rw g3
  refine ⟨k1,?_⟩
  obtain ⟨_,_,_,fJ⟩:=SA (A:=A) H g1 g2 g3
  refine wpAny_comprehension_free (g:=⟨target,iter,Ak,0⟩) (gs:=[]) rfl (bM k2) fJ k3 (fun x m hx=>P4 k4 (by rw [<-hx];exact m)) ?_
  refine he AA iter st φ ρ Z s E _ H ⟨fun q=>N.ne (BQ q),fun x AL q rx AY Ad AH AO vx Ah=>?_,fun c AL q e AY Ad AH AO f Ah=>N.ex c AL (Bu q) e AY Ad AH AO f Ah⟩
  rw [AJ q] at N
  have H1:=H.after Ah
  induction hq:Bg x AL using oc with
  |none=>exact (N.ne (BQ hq)).elim
  |some o=>
   obtain ⟨hd,kd,l,rfl,hs⟩:=LM hq
   rw [AJ hq] at N
   dsimp only at N
   refine UD (s:={s with heap:=AH,toks:=AO}) H1 vx hs fun o vs ho Ou hi=>?_
   refine wpAny_newList ?_ (Nat.zero_le _)
   generalize hb:(AH.push o).push (Ba #[] 0)=hB
   have Ea:AH.get? AH.objs.size=none:=EE AH
   have d0:AH.get? (AH.objs.size+1)=none:=Heap.get?_none_of_le (Nat.le_succ _)
   have sz:(AH.push o).objs.size=AH.objs.size+1:=Heap.size_push ..
   have szB:hB.objs.size=AH.objs.size+1+1:=by rw [<-hb,Heap.size_push,sz]
   have kB:∀b o',AH.get? b=some o'->hB.get? b=some o':=fun b o' e=>by rw [<-hb];exact bf _ (bf _ e)
   have itB:hB.get? AH.objs.size=some o:=by rw [<-hb];exact bf _ (au _ Ou)
   have dB:hB.get? (AH.objs.size+1)=some (Ba #[] 0):=by
    rw [<-hb]
    have:=au (AH.push o) (o:=Ba #[] 0) rfl
    rw [sz] at this
    exact this
   have pB:=H1.grow kB
   have HB:=H1.after (s:={s with heap:=AH,toks:=AO}) pB
   have Ij:AL.sc=st.sc:=Ah.sc
   obtain ⟨Hc,dead,kC,hclos1⟩:=SA (iter:=iter) (asy:=asy) HB (by rw [Ij];exact g1) g2 g3
   have kk:∀b o',AH.get? b=some o'->(FF hB scope).get? b=some o':=fun b o' e=>kC b o' (kB b o' e)
   have R3:∀a∈El (Dw scope AA hB.objs.size) scope.names,AH.get? a=none:=fun a m=>by
    induction z:AH.get? a using oc with
    |none=>rfl
    |some o'=>have:=dead a m;rw [kB a o' z] at this;cases this
   have XY:Ext AY Ad AH (El (Dw scope AA hB.objs.size) scope.names) AY Ad (FF hB scope):=⟨.refl _,.refl _,fun a y e z=>(by rw [z] at e;exact nn e),fun a m z=>absurd m z,fun a z=>by
    induction y:AH.get? a using oc with
    |none=>exact absurd y z
    |some o'=>exact A8 (kk a o' y),fun b o' e _ _=>.inl (kk b o' e)⟩
   have hx:({s with heap:=(AH.push o).push {cls:=.type "list",data:=.seq ([]:List Value).toArray},toks:=AO}:Shared)={s with heap:=hB,toks:=AO}:=by rw [<-hb];rfl
   show wpAny _ A (newFunctionEnv scope AA.globals (EN AA scope.names []) [] AA.qual none .none (some AA)) _ E {s with heap:=(AH.push o).push {cls:=.type "list",data:=.seq ([]:List Value).toArray},toks:=AO}
   rw [hx]
   refine nK (s:={s with heap:=hB,toks:=AO}) ?_
   have Nr:Dh AB w A (Dw scope AA hB.objs.size) (El (Dw scope AA hB.objs.size) scope.names) AY Ad AL AH AH.objs.size (AH.objs.size+1) x kd l.length AY Ad {AL with AA:=DA scope.names AL.AA,sc:=scope.names} (FF hB scope) [] 0:=
    ⟨Hc,XY,rfl,hd,rfl,hi.mono (.refl _) (.refl _) (fun o' e=>by rw [au _ Ou] at e;obtain rfl:=aa e;exact kC _ _ itB),Ea,fun m=>H1.rel.th _ m Ea,H1.fresh Ea,d0,fun m=>H1.rel.th _ m d0,H1.fresh d0,
     fun m=>A8 itB (dead _ m),fun m=>A8 dB (dead _ m),Nat.succ_ne_self _,#[],0,kC _ _ dB,.nil⟩
   have loop:codeAny (model AB w) A (.compLoop (.ListComp Am [⟨target,iter,Ak,0⟩] scope pos) 0 (.ref AH.objs.size) (.ref (AH.objs.size+1)) (Dw scope AA hB.objs.size)) (compPost (model AB w) A E use Q (.ref (AH.objs.size+1)) hB.objs.size) {s with heap:=FF hB scope,toks:=AO}:=by
    refine ZF (s:={s with heap:=FF hB scope,toks:=AO}) (he _) (ht _) (MV) (Pe) (qh H1 vx hs) N.ne Nr Y9.symm fun AM AE ρ' st' h' tk eo Hf X elo ehd epre q1 q2 ⟨xs,m,q3,q4⟩=>hK _ _ _ ?_
    have pk:=Al.back H1 Hf X R3 elo (ehd.trans hd.symm) hd epre
    obtain ⟨mC,nC,_⟩:=Hf.er.ns
    have zC:=Hf.er.zl
    have zr:=Hf.er.zr _ zC
    have old:∀a,AH.get? a=none->s.heap.get? a=none:=fun a e=>Classical.byContradiction fun z=>Ah.ext.live a z e
    exact N.ok AM _ eo AE ρ' h' tk _ _ xs m mC (Ah.trans pk) (old _ d0) q1 q2 q3 q4 (old _ (R3 _ zC)) zr.1 zr.2.1 (by rw [szB];exact Nat.ne_of_lt (Nat.lt_succ_self _)) nC
   rw [sz]
   exact codeAny_compStart_list loop (jE (s:={s with heap:=FF hB scope,toks:=AO}) Nr.i loop)
 .rw [aj hg] at N;exact (N.ne rfl).elim
theorem SP:Ih.v (step ih) (.ev (.ListComp Am [⟨target,iter,Ak,asy⟩] sc pos))=AD (comp ih Am target iter Ak asy sc) fun l=>Bb l:=by
 exact Cy (by (try simp only [A9]);rfl)
theorem OP:Ih.v (step ih) (.evm (.ListComp Am [⟨target,iter,Ak,asy⟩] sc pos))=AD (comp ih Am target iter Ak asy sc) fun l=>newL l:=by
 exact Cy (by (try simp only [A9]);rfl)
theorem LG {C:Addr} (x:Heap.SameBut C h h'):∀b o,h.get? b=some o->b≠C->h'.get? b=some o:=fun b o e n=>(x.2 b n).trans e
theorem Xm {AM:List V} {D C:Addr} {xs:Array Value} {m:Nat} {Q:Value->Shared->Prop} {tk:Nat} (H:AK AB w A AA Z φ ρ st s.heap) (p:Al AB w A AA Z φ ρ st s.heap AE ρ' st' h') (d0:s.heap.get? D=none) (d1:D∉Aa ρ') (d2:AE D=none) (d3:h'.get? D=some (Ba xs m)) (vl:AV w.params AE ρ' xs.toList AM)
  (c0:s.heap.get? C=none) (c1:C∉Aa ρ') (c2:AE C=none) (dc:D≠C) (ne:Bb AM st'≠none)
  (ok:∀v Cw,Bb AM st'=some (.ok v Cw)->∀rv CC CP Ax tk,VR w.params CC CP rv v->Al AB w A AA Z φ ρ st s.heap CC CP Cw Ax->Q rv {s with heap:=Ax,toks:=tk}) :
  ∀Ax,Heap.SameBut C h' Ax->Q (.ref D) {s with heap:=Ax,toks:=tk}:=fun Ax hs=>by
 have Ah:=p.late H c0 c1 c2 (LG hs)
 have ZO:Ax.get? D=some (Ba xs m):=LG hs _ _ d3 dc
 have AW:=Ah.WQ H d0 d1 d2 ZO
 induction e:Bb AM st' using oc with
 |none=>exact (ne e).elim
 |some o=>
  obtain ⟨hl,rfl⟩:=Pr e
  exact ok _ _ e _ _ _ _ tk (.lst (DY ..) (vl.put d2) hl) AW
theorem RQ {m:Nat} (H:AK AB w A AA Z φ ρ st s.heap) (p:Al AB w A AA Z φ ρ st s.heap AE ρ' st' h') (d0:s.heap.get? D=none) (d1:D∉Aa ρ') (d2:AE D=none) (d3:h'.get? D=some (Ba xs m)) (vl:AV w.params AE ρ' xs.toList AM)
  (ne:newL AM st'≠none):∃hl:AM.length<=1000,newL AM st'=some (.ok (.ref st'.hp.length) {st' with hp:=st'.hp++[.list AM]})/\Al AB w A AA Z φ ρ st s.heap AE (ρ'++[(D,none)]) {st' with hp:=st'.hp++[.list AM]} h'/\(ρ'++[(D,none)])[st'.hp.length]? = some (D,none):=by
 unfold newL at ne ⊢
 by_cases hl:AM.length<=1000
 .rw [ak hl] at ne ⊢
  exact ⟨hl,rfl,p.vY H d0 d1 d2 (A8 d3) ⟨rfl,hl,xs,m,d3,vl.mono (.refl _) ⟨_,rfl⟩⟩,by rw [<-p.rel.len];simp⟩
 .rw [aj hl] at ne;exact (ne rfl).elim
theorem Q8 (he:∀AA e st,Au AB w A AA (eval e AA) st (ih.v (.ev e) st)) (ht:∀AA e st,Bm AB w A AA (isTrue e AA (eval e AA)) st (ih.b (.ts e) st))
  
  (H:AK AB w A AA Z φ ρ st s.heap) (N:NU AB w A AA Z φ ρ st s (comp ih Am target iter Ak asy scope st) K E) (hK:∀D C s',K D C s'->∃m,s'.heap.Ns C m/\∀h',Heap.SameBut C s'.heap h'->Q (.ref D) {s' with heap:=h'}) :
  wpAny (model AB w) A (eval (.ListComp Am [⟨target,iter,Ak,asy⟩] scope pos) AA) Q E s:=by
 obtain ⟨rfl,hw⟩:=Rx he ht (pos:=pos) (p:=firstIterPos [⟨target,iter,Ak,asy⟩] pos) (use:=none) H N hK
 rw [eval_ListComp]
 exact hw
theorem cy (he:∀AA e st,Au AB w A AA (eval e AA) st (ih.v (.ev e) st)) (ht:∀AA e st,Bm AB w A AA (isTrue e AA (eval e AA)) st (ih.b (.ts e) st)) :
  Au AB w A AA (eval (.ListComp Am [⟨target,iter,Ak,asy⟩] scope pos) AA) st (Ih.v (step ih) (.ev (.ListComp Am [⟨target,iter,Ak,asy⟩] scope pos)) st):=by
 intro φ ρ Z s E Q H N
 rw [SP] at N
 refine Q8 he ht (K:=fun D C s'=>∃m,s'.heap.Ns C m/\∀h',Heap.SameBut C s'.heap h'->Q (.ref D) {s' with heap:=h'}) H ⟨fun q=>N.ne (BQ q),fun AM st' q AE ρ' h' tk D C xs m mC p d0 d1 d2 d3 vl c0 c1 c2 dc nC=>?_,fun c st' q e AE ρ' h' tk f p=>N.ex c st' (Bu q) e AE ρ' h' tk f p⟩ fun D C s' z=>z
 refine ⟨mC,nC,fun Ax hs=>Xm (tk:=tk) H p d0 d1 d2 d3 vl c0 c1 c2 dc ?_ ?_ Ax hs⟩
 .have:=N.ne;rw [AJ q] at this;exact this
 .exact fun v Cw e rv CC CP Ax tk vr pp=>N.ok v Cw (by rw [AJ q];exact e) rv CC CP Ax tk vr pp
theorem d8 (he:∀AA e st,Au AB w A AA (eval e AA) st (ih.v (.ev e) st)) (ht:∀AA e st,Bm AB w A AA (isTrue e AA (eval e AA)) st (ih.b (.ts e) st)) :
  Au AB w A AA (eval (.ListComp Am [⟨target,iter,Ak,asy⟩] scope pos) AA) st (Ih.v (step ih) (.evm (.ListComp Am [⟨target,iter,Ak,asy⟩] scope pos)) st):=by
 intro φ ρ Z s E Q H N
 rw [OP] at N
 refine Q8 he ht (K:=fun D C s'=>∃m,s'.heap.Ns C m/\∀h',Heap.SameBut C s'.heap h'->Q (.ref D) {s' with heap:=h'}) H ⟨fun q=>N.ne (BQ q),fun AM st' q AE ρ' h' tk D C xs m mC p d0 d1 d2 d3 vl c0 c1 c2 dc nC=>?_,fun c st' q e AE ρ' h' tk f p=>N.ex c st' (Bu q) e AE ρ' h' tk f p⟩ fun D C s' z=>z
 refine ⟨mC,nC,fun Ax hs=>?_⟩
 have Ah:=p.late H c0 c1 c2 (LG hs)
 obtain ⟨hl,e,AW,hr⟩:=RQ H Ah d0 d1 d2 (LG hs _ _ d3 dc) vl (by have:=N.ne;rw [AJ q] at this;exact this)
 exact N.ok _ _ (by rw [AJ q];exact e) _ _ _ Ax tk (.ref hr) AW
theorem cN (he:∀AA e st,Au AB w A AA (eval e AA) st (ih.v (.ev e) st)) (ht:∀AA e st,Bm AB w A AA (isTrue e AA (eval e AA)) st (ih.b (.ts e) st))
  (iG:swapsWith (.ListComp Am [⟨target,iter,Ak,asy⟩] scope pos) (some (.Name y py)) spos.line AA=pure true) :
  BO AB w A AA (exec (.Assign [.Name y py] (.ListComp Am [⟨target,iter,Ak,asy⟩] scope pos) spos) AA) st (Ih.f (step (step ih)) (.ex (.Assign [.Name y py] (.ListComp Am [⟨target,iter,Ak,asy⟩] scope pos) spos)) st):=by
 intro φ ρ Z s E Q H N
 rw [IW rfl] at N
 have N:Cp AB w A AA Z φ ρ st s (AD (Ih.v (step ih) (.evm (.ListComp Am [⟨target,iter,Ak,asy⟩] scope pos))) (fun v=>AD (AD (store y v) fun _=>AF ()) fun _=>AF Fl.next) st) Q E:=N
 rw [OP,A9] at N
 rw [exec_Assign_Name_used _ _ _ _ iG]
 have NK:NU AB w A AA Z φ ρ st s (comp ih Am target iter Ak asy scope st) (fun D C s'=>wpAny (model AB w) A (assign (.Name y py) AA (.ref D)) (fun _ QL=>∃m,QL.heap.Ns C m/\∀h',Heap.SameBut C QL.heap h'->Q .next {QL with heap:=h'}) E s') E:=by
  refine ⟨fun q=>N.ne (BQ q),fun AM st' q AE ρ' h' tk D C xs m mC p d0 d1 d2 d3 vl c0 c1 c2 dc nC=>?_,fun c st' q e AE ρ' h' tk f p=>N.ex c st' (Bu q) e AE ρ' h' tk f p⟩
  rw [AJ q] at N
  obtain ⟨hl,e,AW,hr⟩:=RQ H p d0 d1 d2 d3 vl (fun z=>N.ne (BQ z))
  have N2:=(N.after AW tk).cast (AJ e)
  have H2:=H.after AW
  have cr:C∉Aa (ρ'++[(D,none)]):=fun m=>by
   rw [KS] at m
   rcases List.mem_append.mp m with m | m
   .exact c1 m
   .exact dc (List.mem_singleton.mp m).symm
  obtain ⟨oC,esC,epC,n1,n2,n3⟩:=nC
  refine wpAny_assign_Name (Hh (s:={s with heap:=h',toks:=tk}) H2 (.ref hr) ⟨fun q=>?_,fun u CH q B9 B8 BE Cx BB=>?_,fun c CH q ev B9 B8 BE Cx f BB=>?_⟩)
  .exact N2.ne (BQ (BQ q))
  .obtain ⟨x1,x2⟩:=BB.ext.Mb (A8 n1) cr c2
   have cz:C∉Z:=fun m=>(H.er.zr C m).2.2 c0
   obtain ⟨sl,m9⟩:=(BB.ext.keep C _ n1 cr cz).slots
   refine ⟨mC,⟨_,esC,epC,m9,n2,n3⟩,fun h4 hs=>?_⟩
   have Bq:=(AW.trans BB).late H c0 x1 x2 (LG hs)
   exact N.ok .next CH ((AJ e).trans (AJ (AJ q))) .next B9 B8 h4 Cx .next Bq
  .exact N.ex c CH ((AJ e).trans (Bu (Bu q))) ev B9 B8 BE Cx (f.le AW.ext.live) (AW.trans BB)
 obtain ⟨rfl,hw⟩:=Rx he ht (pos:=pos) (p:=firstIterPos [⟨target,iter,Ak,asy⟩] pos) (use:=some (assign (.Name y py) AA)) (Q:=fun _ s'=>Q .next s') H NK fun D C s' z=>z
 refine ah (wpAny_standAt (ah ?_))
 show wpAny _ A (do let _ <- comprehension (.ListComp Am [⟨target,iter,Ak,0⟩] scope pos) scope AA _ (newList []) false (eval iter AA) (some (assign (.Name y py) AA))) _ _ s
 exact ah (b9 hw (fun _ s' hq=>aq (aq hq)) fun _ _ e=>e)
end
section
open PySem PySem.W PyProof.Rows PySem.Calls PySem.SeqAt PySem.Builtin.Re
variable {AB:Program} {w:World} {A:Around} {s:Shared} {E Q:Value->Shared->Prop} {α:Type} {x:Str} {p v:Value} {t:Tok} {P:Params} {f D:Addr} {of:Obj} {a:String × (Unit->Sem α)}
theorem QI:Slot "re.Pattern" "sub" "re.Pattern.sub":=
 .of (owner:="re.Pattern") (n:="sub") (by rw [typeLookup_type,builtinLookup_eq_fast];kernel_rfl) (by decide +kernel) (by decide +kernel) (by decide +kernel)
  (by first | exact .inl (by decide +kernel) | exact .inr (by decide +kernel)) (by rw [isSubtype_type];kernel_rfl)
theorem pe:typeOf (.builtin "re.Pattern.sub")=pure (.type "method_descriptor"):=by show builtinType _=_;rw [builtinType_eq_fast];kernel_rfl
theorem pT:entryFor table "re.Pattern.sub" = some Builtin.«re.Pattern.sub»:=entryFor_of_tree (by kernel_rfl)
theorem pW:entryFor table "re.Pattern.sub.loop" = some Builtin.«re.Pattern.sub.loop»:=entryFor_of_tree (by kernel_rfl)
theorem VI:plainId "re.Pattern.sub.loop" = true:=by decide +kernel
theorem bJ:typeLookup (.type "function") "__call__" = pure (some (.builtin "function.__call__")):=by rw [typeLookup_type,builtinLookup_eq_fast];kernel_rfl
theorem pR (a b c:Value):argsOk "re.Pattern.sub" ⟨[a,b,c],[]⟩:=by kernel_rfl
theorem pX (r x:Value):reNamed "re.Pattern.sub" "sub" ["repl","string","count"] 2 [r,x] []=pure [some r,some x,none]:=by rfl
noncomputable def Mf {α:Type}:Sem α->Option α
 | .pure a=>some a
 |_=>none
noncomputable def Mp {α:Type}:Sem α->Option (String × (Unit->Sem α))
 | .rule g k=>some (g,k)
 |_=>none
theorem oh {t:Sem α} {a:α} (h:Mf t=some a):t = .pure a:=GN (P:=fun a=>t = .pure a) (by clear h;induction t using Sem.casesOn <;> first | exact trivial | exact rfl) h
theorem qK {t:Sem α} (h:Mp t=some a):t = .rule a.1 a.2:=GN (P:=fun a=>t = .rule a.1 a.2) (by clear h;induction t using Sem.casesOn <;> first | exact trivial | exact rfl) h
noncomputable def Mu {α:Type}:Nat->Sem α->Option α
 |0,_=>none
 |n+1,t=>match Mf t with
  |some a=>some a
  |none=>match Mp t with
   |some q=>Mu n (q.2 ())
   |none=>none
theorem xD {M:Model} {Q:α->Shared->Prop} {a:α}:∀(n:Nat) (t:Sem α),Mu n t=some a->Q a s->wpAny M A t Q E s:=by
 intro n_
 induction n_ with
 |zero=>
  intro _ e _
  exact nn e
 |succ n AU=>
  intro t e h
  have e:(match Mf t with | some a=>some a | none=>match Mp t with | some q=>Mu n (q.2 ()) | none=>none)=some a:=e
  induction q:Mf t using oc with
  |some b=>
   rw [q] at e
   obtain rfl:=aa e
   rw [oh q]
   exact aq h
  |none=>
   rw [q] at e
   induction q':Mp t using oc with
   |none=>rw [q'] at e;exact nn e
   |some k=>
    rw [q'] at e
    rw [qK q']
    exact ah (m:=rule k.1) (f:=k.2) (wpAny_rule (AU _ e h))
noncomputable abbrev QH:Array Value:=#[.int (14) 0,.int (14) 0,.int (4) 0,.int (1) 0,.int (1) 0,.int (9) 0,.int (0) 0,.int (64) 0,.int (0) 0,.int (1342177280) 0,.int (0) 0,.int (0) 0,.int (0) 0,.int (0) 0,.int (0) 0,.int (17) 0,.int (0) 0,.int (13) 0,.int (11) 0,.int (9) 0,.int (0) 0,.int (64) 0,.int (0) 0,.int (1342177280) 0,.int (0) 0,.int (0) 0,.int (0) 0,.int (0) 0,.int (0) 0,.int (17) 0,.int (1) 0,.int (1) 0]
theorem pU (h:x = "ab"\/x = "!a"):Mu 1000 (reNextFound {pattern:=p,string:=v,code:=(QH.map reRawOf).map (·.toNat),text:=x.cps,kind:=0,groups:=1,pos:=0,lim:=x.cps.size} 0 false)=some none:=by
 rcases h with rfl | rfl
 .kernel_rfl
 .kernel_rfl
theorem VJ {Q:ReTarget->Shared->Prop} (K:(KK P).In s.heap)
  (h:Q {pattern:=.ref 43,string:=.str x t,code:=(QH.map reRawOf).map (·.toNat),text:=x.cps,kind:=0,groups:=1,pos:=0,lim:=x.cps.size} s):wpAny (model AB w) A (reWholeTarget (.ref 43) (.str x t)) Q E s:=by
 have g3:s.heap.get? 43=some ⟨.type "re.Pattern",none,.fields #[.str "([&~|])" 290,.int (32) 325,.int (1) 0,.none,.none,.ref 42,.int (0) 0],#[]⟩:=K 43 _ rfl
 have g2:s.heap.get? 42=some ⟨.type "tuple",none,.seq QH 0,#[]⟩:=K 42 _ rfl
 unfold reWholeTarget reTextOf
 repeat (any_goals (first | assumption | wp_step))
theorem pZ (hx:x = "ab"\/x = "!a") (K:(KK P).In s.heap) (hD:s.heap.get? D=some (Ba #[] 0))
  (h:∀h' tk t',(∀b o,b≠D->s.heap.get? b=some o->h'.get? b=some o)->Q (.str x t') {s with heap:=h',toks:=tk}) :
  codeAny (model AB w) A (.builtin "re.Pattern.sub.loop" ⟨[.ref 43,.str x t,.ref f,rawInt 1,rawInt 0,rawInt 0,rawInt 0,rawInt 0,.bool false,.ref D,.bool false],[]⟩) (callEnd Q E) s:=by
 refine codeAny_builtin pW ?_
 rw [Around.under_plainId VI]
 unfold Builtin.«re.Pattern.sub.loop»
 dsimp only
 refine ah (VJ K ?_)
 refine ah ?_
 rw [aj (by decide)]
 refine xD 1000 _ (pU hx) ?_
 dsimp only
 have hz:x.cps.size=2:=by rcases hx with rfl | rfl <;> rfl
 rw [ak (show Int.toNat 0<x.cps.size by rw [hz];decide)]
 have he:(⟨x.cps.extract (Int.toNat 0) x.cps.size⟩:Str)=x:=by rcases hx with rfl | rfl <;> rfl
 refine ah ?_
 unfold reSlice
 rw [ak (show ((0:Nat)==0)=true from rfl)]
 refine wpAny_mkStr ?_ (by rw [he];show x.cps.size<=sizeLine;rw [hz];decide)
 rw [he]
 refine ah (wpAny_updateSeq hD rfl ?_ (Nat.zero_le _) (by show 1<=sizeLine+1;decide))
 obtain ⟨n,hu⟩:∃n,(s.heap.update D (Obj.mapSeq fun y=>y.push (.str x s.toks))).get? D=some (Ba #[.str x s.toks] n):=⟨_,by rw [bz _ hD rfl];rfl⟩
 have hk:∀b o,b≠D->s.heap.get? b=some o->(s.heap.update D (Obj.mapSeq fun y=>y.push (.str x s.toks))).get? b=some o:=fun b o hb e=>by
  rw [(Heap.SameBut.update ..).2 b hb];exact e
 refine ah (wpAny_mkStr ?_ (by show (x.cps.extract 0 0).size<=sizeLine;simp))
 refine ah (wpAny_seqItems (items:=#[.str x s.toks]) hu rfl ?_)
 refine wpAny_ite_false (by rfl) ?_
 refine ah ?_
 have iJ:(⟨x.cps.extract 0 0⟩:Str)=⟨#[]⟩:=by simp
 rw [iJ,ak (show ((0:Nat)==0)=true from rfl)]
 refine join_list (ys:=[x]) ⟨_,hu,rfl,n,rfl⟩ (.cons x s.toks .nil) (by rcases hx with rfl | rfl <;> decide) fun t' k=>?_
 rw [aj (by decide)]
 exact aq (h _ _ _ hk)
theorem Ym (hx:x = "ab"\/x = "!a") (K:(KK P).In s.heap) (hf:s.heap.get? f=some of) (hc:of.cls = .type "function")
  (h:∀h' tk t',(∀b o,s.heap.get? b=some o->h'.get? b=some o)->Q (.str x t') {s with heap:=h',toks:=tk}):wpAny (model AB w) A (call (.builtin "re.Pattern.sub") [.ref 43,.ref f,.str x t] []) Q E s:=by
 have tf:s.TypeIs (.ref f) "function":=⟨of,hf,hc⟩
 refine wpAny_call (codeAny_call_builtin QI.plain pT (QI.check _ _ _ _ _ _ _ _ ⟨_,K 43 _ rfl,rfl⟩ (pR _ _ _) ?_))
 unfold Builtin.«re.Pattern.sub» reSubstitute
 dsimp only
 rw [pX]
 refine ah (aq ?_)
 dsimp only
 refine ah (aq ?_)
 refine ah (wpAny_specialOf tf bJ ?_)
 refine wpAny_ite_true (by rfl) ?_
 refine ah (aq ?_)
 refine wpAny_ite_true (by rfl) ?_
 refine ah (aq ?_)
 dsimp only
 refine ah (bh (VJ K ?_))
 refine wpAny_ite_true (by rfl) ?_
 refine ah (wpAny_of_eq (a:=()) (by rfl) ?_)
 refine ah (wpAny_newList ?_ (Nat.zero_le _))
 refine aq ⟨plainId_quiet VI _,?_⟩
 have k:∀b o,s.heap.get? b=some o->(s.heap.push (Ba #[] 0)).get? b=some o:=fun b o e=>bf _ e
 refine pZ hx (K.keeps k) (au _ rfl) fun h' tk t' k'=>h h' tk t' fun b o e=>k' b o (Nat.ne_of_lt (Heap.lt_size e)) (k b o e)
end
section
open PySem PySem.W PyProof.Rows PySem.Calls PySem.SeqAt
variable {AB:Program} {w:World} {A A':Around} {AA e:Env} {Z:List Addr} {φ AE AY:Fz} {ρ ρ' Ad:AZ} {st st' AL:S} {h h' Ax AH:Heap} {s:Shared} {AO n m:Nat} {E Q:Value->Shared->Prop} {ih:Ih} {ps:Array Value} {las:Arguments} {lb:Expr} {lsc:Scope} {lp:Pos} {v:V} {α β:Type} {vs:List Value} {C:Fz->AZ->β->α->Prop} {t:Sem β} {o:Option (Out α)}
theorem AK.vF (H:AK AB w A AA Z φ ρ st h) (k:∀b o,h.get? b=some o->b≠57->h'.get? b=some o) (h1:h'.get? 57=some (tabObj ps)) (ht:TriplesOk ps.toList):Al AB w A AA Z φ ρ st h φ ρ st h':=by
 have hp:=H.tb.at_
 have off:∀b,b∉Aa ρ->b≠57:=fun b hb e=>hb (DV hp (.inl e))
 have live:∀a,h.get? a≠none->h'.get? a≠none:=fun a n=>by
  by_cases e1:a=57
  .rw [e1,h1];exact fun q=>by cases q
  .induction e:h.get? a using oc with
   |none=>exact absurd e n
   |some o=>rw [k a o e e1];exact fun q=>by cases q
 have keep:∀b o,h.get? b=some o->b∉Aa ρ->h'.get? b=some o:=fun b o e n=>k b o e (off b n)
 have ext:Ext φ ρ h Z φ ρ h':=⟨.refl _,.refl _,fun a x e n=>(by rw [n] at e;exact nn e),fun a ha hn=>absurd ha hn,live,fun b o e n _=>.inl (keep b o e n)⟩
 refine ⟨⟨fun b o e=>keep b o (H.rel.fz _ _ e) (fun m=>by rw [H.rel.ap b m] at e;exact nn e),H.rel.len,fun j y q e1 e2=>?_,H.rel.nd,H.rel.ap,fun a ha=>live a (H.rel.th a ha)⟩,
  H.er.mono (.refl _) (.refl _) (fun b o e n=>⟨o.slots,keep b o e n⟩) live (fun a x e n=>(by rw [n] at e;exact nn e)) (fun a ha hn=>absurd ha hn) rfl rfl,
  H.amb.after ext fun b hb o es n e q=>⟨o,es,n,keep b o e (H.er.zr b hb).1,q⟩,ext,rfl,rfl,rfl,rfl⟩
 by_cases Ic:0=j
 .subst Ic
  rw [hp] at e2
  rw [H.tb.hp] at e1
  obtain rfl:=aa e1;obtain rfl:=aa e2
  exact ⟨rfl,ps,h1,ht⟩
 .exact (H.rel.ob j y q e1 e2).mono (.refl _) (.refl _) fun a ha z e=>k a z e (Py H.rel.nd e2 hp (Ne.symm Ic) ha (.inl rfl))
theorem YT (H:AK AB w A AA Z φ ρ st h):∃mg,h.Ns mainGlobals mg/\h.BuiltinsAt mg 57:=by
 obtain ⟨mg,mb,n1,n2,n3⟩:=H.gl.names
 refine ⟨mg,n1.ns H.rel,4,_,?_,by decide,by decide,by decide,H.rel.fz 4 _ (H.gl.kk 4 _ rfl),rfl,rfl,rfl⟩
 obtain ⟨o,es,ep,e,d,k,n⟩:=n1
 have e':=H.gl.kk 3 _ rfl
 rw [show (3:Addr)=mainGlobals from rfl,e] at e'
 obtain rfl:=aa e'
 cases d
 rw [<-n]
 kernel_rfl
theorem vE (H:AK AB w A AA Z φ ρ st h):∃ps,h.get? 57=some (tabObj ps)/\TriplesOk ps.toList:=by
 obtain ⟨_,ps,a,b⟩:=H.rel.ob _ _ _ H.tb.hp H.tb.at_
 exact ⟨ps,a,b⟩
theorem lK (MH:GH st.sc=true) (hl:MS las lsc=true) (H:AK AB w A AA Z φ ρ st s.heap)
  (k:∀f of fd h' tk,s.heap.get? f=none->of.cls = .type "function"->of.data = .func fd->h'.get? f=some of->f∉Aa ρ->φ f=none->Al AB w A AA Z φ ρ st s.heap φ ρ st h'->Q (.ref f) {s with heap:=h',toks:=tk}) :
  wpAny (model AB w) A (eval (.Lambda las lb lsc lp) AA) Q E s:=by
 unfold MS at hl
 simp only [Bool.and_eq_true,List.isEmpty_iff] at hl
 obtain ⟨⟨⟨l1,l2⟩,l3⟩,l4⟩:=hl
 obtain ⟨mg,b1,b2⟩:=YT H
 obtain ⟨ps,c1,c2⟩:=vE H
 have C:CodeHd s.heap 61 57:=codeHd_of_K H.CR (by kernel_rfl)
 have ME:=Rp (scope:=lsc) (AA:=AA) fun x m q=>by
  have:=List.all_eq_true.mp l4 x m
  rw [q] at this;exact Bool.noConfusion this
 have fM:defaultsOf las AA=([],[]):=by
  obtain ⟨⟩:=las
  dsimp only at l1 l2 l3
  subst l1;subst l2;subst l3
  rfl
 have fresh:∀{h':Heap} {ob:Obj},(∀b o,s.heap.get? b=some o->b≠57->h'.get? b=some o)->(∃p,h'.get? 57=some (tabObj p)/\TriplesOk p.toList)->s.heap.objs.size<=h'.objs.size->ob.cls = .type "function"->(∃fd,ob.data = .func fd)->
   ∀tk,Q (.ref h'.objs.size) {s with heap:=h'.push ob,toks:=tk}:=fun {h' ob} kk ⟨p,kp,kt⟩ hs hc ⟨fd,hd⟩ tk=>by
  have hn:s.heap.get? h'.objs.size=none:=Heap.get?_none_of_le hs
  have P:=H.vF (h':=h'.push ob) (ps:=p) (fun b o e n=>bf _ (kk b o e n)) (bf _ kp) kt
  refine k _ ob fd _ tk hn hc hd (au _ (by obtain ⟨⟩:=ob;subst hd;rfl)) (fun m=>H.rel.th _ m hn) ?_ P
  induction e:φ h'.objs.size using oc with
  |none=>rfl
  |some o=>have:=H.rel.fz _ _ e;rw [hn] at this;exact nn this
 refine kla_eval fM ?_
 induction hf:codeAmong lp ps.toList using oc with
 |none=>
  refine kla_makeFunction ME H.er.gl b1 (H.er.cd MH) C c1 c2 hf (by decide) b2 fun c' ctv h' tk hx TJ Ey _ ht=>?_
  refine fresh (fun b o e n=>hx b o n e) ⟨_,ht,?_⟩ (bg TJ (Nat.le_of_lt Ey)) rfl ⟨_,rfl⟩ tk
  rw [Array.toList_append]
  exact TriplesOk_snoc _ _ _ _ c2
 |some cv=>
  refine kla_makeFunctionHit ME H.er.gl b1 (H.er.cd MH) C c1 c2 hf b2 fun ctv h' tk hk hs=>?_
  exact fresh (fun b o e n=>hk b o e) ⟨_,hk _ _ c1,c2⟩ hs rfl ⟨_,rfl⟩ tk
theorem pY:PlainAttrs "re.Pattern":=
 ⟨⟨"object.__getattribute__",by rw [typeLookup_type,builtinLookup_eq_fast];kernel_rfl,by decide +kernel⟩,by rw [typeLookup_type,builtinLookup_eq_fast];kernel_rfl⟩
set_option tactic.hygienic true in
theorem pD {o:Out V} (h:Jr v st=some o):∃x:Str,v = .str x/\(x = "ab"\/x = "!a")/\o = .ok (.str x) st:=by
 induction v using V.casesOn with
 |str x=>
  obtain ⟨q,h⟩:=CE (show (if (x == "ab" || x == "!a")=true then AF (V.str x) else AG) st=some o from h)
  obtain rfl:=aa h
  rw [Bool.or_eq_true,beq_iff_eq,beq_iff_eq] at q
  exact ⟨x,rfl,q,rfl⟩
 |_=>exact nn h
theorem ur (he:∀e st,Au AB w A AA (eval e AA) st (ih.v (.ev e) st)):KN AB w A AA ih:=by
 intro o apos pos lp las lb e lsc φ ρ Z st s Q E MH hl hp H N
 obtain ⟨hl,FT⟩:=Bool.and_eq_true_iff.mp hl
 have FT:Bk e=false:=by simpa using FT
 have fU:methodCallForm 2 (backTo pos (starEach [.Lambda las lb lsc lp,e] AA)) []=true:=by
  rw [GV rfl,GV FT];rfl
 unfold methodCall calleeOf
 rw [fU,Kg hp]
 refine ah (bh (getMethod_builtin (T:="re.Pattern") ⟨_,H.CR 43 _ rfl,rfl⟩ pY QI pe (fun a z=>by cases z;exact ⟨_,H.CR 43 _ rfl,rfl⟩) (ah (aq ?_))))
 refine KV (RX (fun x q=>by rw [GV rfl] at q;cases q) ?_)
 rw [GV rfl,GV FT]
 refine Calls.spliced_cons (lK MH hl H fun f of fd AH AO f1 f2 f3 f4 f5 f6 Ah=>?_)
 have N1:=N.after Ah AO
 refine Calls.spliced_cons ((he e st).BH (s:={s with heap:=AH,toks:=AO}) (H.after Ah) N1 fun v st2 rv Ab Ae AR Aw vv H2 AW N2=>?_)
 induction hq:Jr v st2 using oc with
 |none=>exact (N2.ne hq).elim
 |some o=>
  obtain ⟨x,rfl,hx,rfl⟩:=pD hq
  obtain ⟨t,rfl,EW⟩:=vv.I5
  have hz:f∉Z:=fun m=>(H.er.zr _ m).2.2 f1
  have hf:=(AW.ext.keep _ _ f4 f5 hz).exact (fun es n z=>by rw [f3] at z;cases z)
  refine Calls.spliced_nil ⟨UL,rfl,?_⟩
  refine Ym (s:={s with heap:=AR,toks:=Aw}) hx H2.CR hf f2 fun BE tk t' k=>?_
  exact N2.ok _ _ hq _ Ab Ae BE tk (.str x t' EW) (H2.grow k)
structure Bp (A:Around) (n:Nat):Prop where
 dp:A.depth+2*n+4<recursionLimit
 un:A.units+5*n+300<cLine
 fr:∃fr,A.frames=some fr
theorem Bp.less (R:Bp A n) (h:m<=n):Bp A m:=⟨by have:=R.dp;lia,by have:=R.un;lia,R.fr⟩
theorem Bp.mark {e:Option Value} (R:Bp A n):Bp (A.mark e) n:=⟨R.dp,R.un,R.fr⟩
structure Sound (AB:Program) (w:World) (n:Nat):Prop where
 ev:∀(A:Around) (AA:Env),Bp A n->∀e st,Au AB w A AA (eval e AA) st (Ih.v (run n) (.ev e) st)
 evm:∀(A:Around) (AA:Env),Bp A n->∀e st,Au AB w A AA (eval e AA) st (Ih.v (run n) (.evm e) st)
 ts:∀(A:Around) (AA:Env),Bp A n->∀e st,Bm AB w A AA (isTrue e AA (eval e AA)) st (Ih.b (run n) (.ts e) st)
 ex:∀(A:Around) (AA:Env) (outer:List Env) (L:Addr),Bp A n->A.frames=some (AA::outer)->AA.frame=some L->∀x st,BO AB w A AA (exec x AA) st (Ih.f (run n) (.ex x) st)
 exs:∀(A:Around) (AA:Env) (outer:List Env) (L:Addr),Bp A n->A.frames=some (AA::outer)->AA.frame=some L->∀xs st,BO AB w A AA (execs xs AA) st (Ih.f (run n) (.exs xs) st)
 call:∀(A:Around) (AA:Env),Bp A n->GY AB w A AA (run n)
 new:∀(A:Around) (AA:Env),Bp A n->KJ AB w A AA (run n)
theorem bad (h:o=none):Di AB w A AA C t st o:=fun _ _ _ _ _ _ _ N=>(N.ne h).elim
theorem IL {t:Sem α} (h:o=none):Bm AB w A AA t st o:=fun _ _ _ _ _ _ _ N=>(N.ne h).elim
theorem uR:Sound AB w 0:=
 ⟨fun _ _ _ _ _=>bad rfl,fun _ _ _ _ _=>bad rfl,fun _ _ _ _ _=>IL rfl,fun _ _ _ _ _ _ _ _ _=>bad rfl,fun _ _ _ _ _ _ _ _ _=>bad rfl,fun _ _ _ _ _ _ _ _ _ _ _ _ _ _ _ _ N=>(N.ne rfl).elim,fun _ _ _ _ _ _ _ _ _ _ _ N=>(N.ne rfl).elim⟩
theorem Bp.deep (R:Bp A (n+1)):Bp (A.deeper e) n/\∃outer,(A.deeper e).frames=some (e::outer):=by
 obtain ⟨fr,h⟩:=R.fr
 have h1:=R.dp
 have h2:=R.un
 have e1:(A.deeper e).frames=some (e::fr):=by show (A.frames.map _)=_;rw [h];rfl
 refine ⟨⟨?_,?_,_,e1⟩,_,e1⟩
 .show A.depth+1+2*n+4<recursionLimit
  lia
 .show A.units+_+5*n+300<cLine
  show A.units+3+5*n+300<cLine
  lia
theorem Bp.tc {C:Addr} (R:Bp A (n+1)):Bp (Dr A C vs) n:=by
 obtain ⟨a1,a2,a3,a4⟩:=NG (A:=A) C vs
 have h1:=R.dp
 have h2:=R.un
 exact ⟨by lia,by lia,by rw [a1];exact R.fr⟩
theorem Bp.vJ {C:Addr} (R:Bp A (n+1)):Bp ((Dr A C vs).deeper e) n/\∃outer,((Dr A C vs).deeper e).frames=some (e::outer):=by
 obtain ⟨a1,a2,a3,a4⟩:=NG (A:=A) C vs
 obtain ⟨fr,h⟩:=R.fr
 have h1:=R.dp
 have h2:=R.un
 have e1:((Dr A C vs).deeper e).frames=some (e::fr):=by show ((Dr A C vs).frames.map _)=_;rw [a1,h];rfl
 refine ⟨⟨?_,?_,_,e1⟩,_,e1⟩
 .show (Dr A C vs).depth+1+2*n+4<recursionLimit
  lia
 .show (Dr A C vs).units+3+5*n+300<cLine
  lia
end
section
open PySem PySem.W PyProof.Rows PySem.Calls PySem.SeqAt
variable {AB:Program} {w:World} {A A':Around} {AA:Env} {st:S} {n:Nat} (X:Sound AB w n)
include X
theorem uH (R:Bp A (n+1)):GY AB w A AA (run (n+1)):=by
 obtain ⟨fr,h⟩:=R.fr
 have h1:=R.dp
 have h2:=R.un
 exact Yh h (by lia) (by lia) fun A3 L hL ss st=>let ⟨r,outer,ho⟩:=R.deep (e:=A3);X.exs _ A3 outer L r ho hL ss st
end
section
open PySem PySem.W PyProof.Rows PySem.Calls PySem.SeqAt
variable {AB:Program} {w:World} {A A':Around} {AA:Env} {st:S} {n:Nat} (X:Sound AB w n)
include X
theorem uN (R:Bp A (n+1)):KJ AB w A AA (run (n+1)):=by
 obtain ⟨fr,h⟩:=R.fr
 have h1:=R.dp
 have h2:=R.un
 exact nJ h (by lia) (by lia) fun A3 L hL ss st=>let ⟨r,outer,ho⟩:=R.vJ (C:=178) (vs:=[]) (e:=A3);X.exs _ A3 outer L r ho hL ss st
end
section
open PySem PySem.W PyProof.Rows PySem.Calls PySem.SeqAt
variable {AB:Program} {w:World} {A A':Around} {AA:Env} {st:S} {n:Nat} (X:Sound AB w n)
include X
omit X in
theorem uI {c:Const} {k:Nat} {pos:Pos}:Au AB w A AA (eval (.Constant c k pos) AA) st (Ih.v (run (n+1)) (.ev (.Constant c k pos)) st):=by
 induction c using Const.casesOn with
 |int i=>exact good_int
 |bool b=>exact good_bool
 |none=>exact good_none
 |str x=>
  by_cases h:x.length<=1000
  .have e:Ih.v (run (n+1)) (.ev (.Constant (.str x) k pos)) st=AF (.str x) st:=by
    exact congrFun (Cy (show step (run n) (.ev (.Constant (.str x) k pos))=AD (AF (V.str x)) (fun v=>AF (.v v)) from (ak h:(if x.length<=1000 then AF (Res.v (V.str x)) else AG)=_))) st
   rw [e]
   exact good_str h
  .refine bad ?_
   exact congrFun (Cy (m:=AG) (show step (run n) (.ev (.Constant (.str x) k pos))=AD AG (fun v=>AF (.v v)) from (aj h:(if x.length<=1000 then AF (Res.v (V.str x)) else AG)=_))) st
 |_=>exact bad rfl
end
section
open PySem PySem.W PyProof.Rows PySem.Calls PySem.SeqAt
variable {AB:Program} {w:World} {A A':Around} {AA:Env} {st:S} {n:Nat} (X:Sound AB w n)
include X
omit X in
theorem uQ {op:UnaryOp} {e:Expr} {pos:Pos}:Au AB w A AA (eval (.UnaryOp op e pos) AA) st (Ih.v (run (n+1)) (.ev (.UnaryOp op e pos)) st):=by
 match op with
 | .Not=>exact bad rfl
 | .UAdd=>exact bad rfl
 | .Invert=>exact bad rfl
 | .USub=>
  match e with
  | .Constant c k p=>
   match c with
   | .int i=>exact dR
   | .none=>exact bad rfl
   | .bool _=>exact bad rfl
   | .float _=>exact bad rfl
   | .complex _ _=>exact bad rfl
   | .str _=>exact bad rfl
   | .bytes _=>exact bad rfl
   | .ellipsis=>exact bad rfl
  | .BoolOp ..=>exact bad rfl
  | .NamedExpr ..=>exact bad rfl
  | .BinOp ..=>exact bad rfl
  | .UnaryOp ..=>exact bad rfl
  | .Lambda ..=>exact bad rfl
  | .IfExp ..=>exact bad rfl
  | .Dict ..=>exact bad rfl
  | .Set ..=>exact bad rfl
  | .ListComp ..=>exact bad rfl
  | .SetComp ..=>exact bad rfl
  | .DictComp ..=>exact bad rfl
  | .GeneratorExp ..=>exact bad rfl
  | .Await ..=>exact bad rfl
  | .Yield ..=>exact bad rfl
  | .YieldFrom ..=>exact bad rfl
  | .Compare ..=>exact bad rfl
  | .Call ..=>exact bad rfl
  | .FormattedValue ..=>exact bad rfl
  | .JoinedStr ..=>exact bad rfl
  | .Attribute ..=>exact bad rfl
  | .Subscript ..=>exact bad rfl
  | .Starred ..=>exact bad rfl
  | .Name ..=>exact bad rfl
  | .List ..=>exact bad rfl
  | .Tuple ..=>exact bad rfl
  | .Slice ..=>exact bad rfl
end
section
open PySem PySem.W PyProof.Rows PySem.Calls PySem.SeqAt
variable {AB:Program} {w:World} {A A':Around} {AA:Env} {st:S} {n:Nat} (X:Sound AB w n)
include X
set_option maxHeartbeats 1000000 in
theorem uJ (R:Bp A (n+1)):∀e st,Au AB w A AA (eval e AA) st (Ih.v (run (n+1)) (.ev e) st):=by
 intro e st
 have r:=R.less (Nat.le_succ n)
 have h2:=R.un
 have he:=X.ev A AA r
 induction e using Expr.casesOn with
 |BoolOp op es pos=>
  intro φ ρ Z s E Q H N
  rw [Av,SN] at N
  exact Od he es st φ ρ Z s E Q H N
 |NamedExpr t e pos=>induction t using Expr.casesOn <;> first | exact dD he | exact bad rfl
 |BinOp l op rr pos=>exact cR (he l) (he rr) jk
 |UnaryOp op e pos=>exact uQ
 |IfExp t a b pos=>exact cj (X.ts A AA r t) (he a) (he b)
 |Dict ks es pos=>exact cX he
 |ListComp Am gs sc pos=>
  match gs with
  | []=>exact bad rfl
  | [⟨t,i,Ak,a⟩]=>exact cy (fun AA=>X.ev A AA r) (fun AA=>X.ts A AA r)
  |⟨_,_,_,_⟩::_::_=>exact bad rfl
 |Compare l ops cs pos=>
  match ops,cs with
  | [op],[c]=>exact cU (he l) (he c) UA
  | [],_=>exact bad rfl
  | [_],[]=>exact bad rfl
  | [_],_::_::_=>exact bad rfl
  |_::_::_,_=>exact bad rfl
 |Call f as ks pos=>exact cT he (X.call A AA r) (ur he) (X.new A AA r) (nI (by lia) fun vs=>X.call _ AA R.tc)
 |JoinedStr es pos=>exact cu he
 |Constant c k pos=>exact uI
 |Attribute o a pos=>exact cO he
 |Subscript o i pos=>exact dJ he
 |Name x pos=>exact c9
 |List es pos=>exact c7 he
 |Tuple es k pos=>exact dN he
 |_=>exact bad rfl
end
section
open PySem PySem.W PyProof.Rows PySem.Calls PySem.SeqAt
variable {AB:Program} {w:World} {A A':Around} {AA:Env} {st:S} {n:Nat} (X:Sound AB w n)
include X
theorem uK (R:Bp A (n+1)):∀e st,Au AB w A AA (eval e AA) st (Ih.v (run (n+1)) (.evm e) st):=by
 intro e st
 have r:=R.less (Nat.le_succ n)
 have he:=X.ev A AA r
 induction e using Expr.casesOn with
 |List es pos=>exact d9 he
 |ListComp Am gs sc pos=>
  match gs with
  | []=>exact he (.ListComp Am [] sc pos) st
  | [⟨t,i,Ak,a⟩]=>exact d8 (fun AA=>X.ev A AA r) (fun AA=>X.ts A AA r)
  |⟨t,i,Ak,a⟩::b::c=>exact he (.ListComp Am (⟨t,i,Ak,a⟩::b::c) sc pos) st
 |Dict ks es pos=>
  match ks,es with
  | [],[]=>exact d7
  | [],b::c=>exact he (.Dict [] (b::c) pos) st
  |a::ks,es=>exact he (.Dict (a::ks) es pos) st
 |BoolOp a b c=>exact he _ st
 |_=>exact he _ st
end
section
open PySem PySem.W PyProof.Rows PySem.Calls PySem.SeqAt
variable {AB:Program} {w:World} {A A':Around} {AA:Env} {st:S} {n:Nat} (X:Sound AB w n)
include X
theorem uP (R:Bp A (n+1)):∀e st,Bm AB w A AA (isTrue e AA (eval e AA)) st (Ih.b (run (n+1)) (.ts e) st):=by
 intro e st
 have r:=R.less (Nat.le_succ n)
 have he:=X.ev A AA r
 have ht:=X.ts A AA r
 by_cases hp:Jo e=true
 .exact eU he hp
 .induction e using Expr.casesOn with
  |BoolOp op es pos=>
   induction op using BoolOp.casesOn with
   |And=>
    intro φ ρ Z s E Q H N
    rw [Av,NJ] at N
    exact dW ht es st φ ρ Z s E Q H N
   |Or=>
    intro φ ρ Z s E Q H N
    rw [Av,Qs] at N
    exact dX ht es st φ ρ Z s E Q H N
  |UnaryOp op e pos=>cases op <;> first | exact eS ht | exact IL rfl
  |Compare l ops cs pos=>
   match ops,cs with
   | [op],[c]=>exact eN he UA
   | [],_=>exact IL rfl
   | [_],[]=>exact IL rfl
   | [_],_::_::_=>exact IL rfl
   |_::_::_,_=>exact IL rfl
  |_=>first | exact IL rfl | exact (hp rfl).elim
end
section
open PySem PySem.W PyProof.Rows PySem.Calls PySem.SeqAt
variable {AB:Program} {w:World} {A A':Around} {AA:Env} {outer:List Env} {L:Addr} {st s:S} {n line k:Nat} {Am e t:Expr} {gs:List Comprehension} {sc:Scope} {p py pos:Pos} {y:Str} {ts es:List Expr} {α:Type} {h:ExceptHandler} {hs:List ExceptHandler} {q:(Str × Pos) × Stmt × List Stmt × Pos} {body orelse:List Stmt} {ih:Ih} {c:Option Expr} {op:Operator} {l:List α} {a:α}
theorem tY:∃b,swapsWith (.ListComp Am gs sc p) (some (.Name y py)) line AA=pure b:=⟨_,rfl⟩
theorem Lm (hp:EC ts e=true) (h:∀s,Ih.v (run n) (if Dl e then .evm e else .ev e) s=none):Ih.f (run (n+1)) (.ex (.Assign ts e pos)) st=none:=by
 rw [Av,IW hp]
 exact BQ (h st)
theorem i6 (h:¬ isName e=false):∃x p,e = .Name x p:=by
 induction e using Expr.casesOn with
 |Name x p=>exact ⟨x,p,rfl⟩
 |_=>exact (h rfl).elim
inductive Wu (e:Expr):Prop
 |list (a b c d) (h:e = .ListComp a b c d)
 |set (a b c d) (h:e = .SetComp a b c d)
 |dict (a b c d f) (h:e = .DictComp a b c d f)
theorem ZI (h:¬ EZ e=false):Wu e:=by
 induction e using Expr.casesOn with
 |ListComp a b c d=>exact .list a b c d rfl
 |SetComp a b c d=>exact .set a b c d rfl
 |DictComp a b c d f=>exact .dict a b c d f rfl
 |_=>exact (h rfl).elim
theorem jc (h:¬ gs.length=1):Ih.v (run n) (.evm (.ListComp Am gs sc p)) s=none:=by
 induction n using zc with
 |zero=>rfl
 |succ n=>
  induction gs using lc with
  |nil=>induction n using zc <;> rfl
  |cons g r=>
   induction r using lc with
   |nil=>exact (h rfl).elim
   |cons g' r=>cases g;cases n <;> rfl
theorem qc:Ih.v (run n) (.ev (.SetComp Am gs sc p)) s=none:=by induction n using zc <;> rfl
theorem ZR {k:Expr}:Ih.v (run n) (.ev (.DictComp k Am gs sc p)) s=none:=by induction n using zc <;> rfl
theorem uG (Y:∀k,k<=n->Sound AB w k) (R:Bp A (n+1)):BO AB w A AA (exec (.Assign ts e pos) AA) st (Ih.f (run (n+1)) (.ex (.Assign ts e pos)) st):=by
 have r:=R.less (Nat.le_succ n)
 have X:=Y n (ao n)
 have he:=X.ev A AA r
 by_cases hp:EC ts e=true
 .have base:=fun hc=>cL (st:=st) (pos:=pos) he (X.evm A AA r) MV Pe hp hc
  induction ts using lc with
  |nil=>exact Bool.noConfusion (hp:false=true)
  |cons t r=>
   induction r using lc with
   |cons u r=>
    induction r using lc with
    |nil=>exact base rfl
    |cons v r=>exact Bool.noConfusion (hp:false=true)
   |nil=>
    by_cases hc:EZ e=false\/isName t=false
    .exact base (vA hc)
    .obtain ⟨h1,h2⟩:=not_or.mp hc
     obtain ⟨y,py,rfl⟩:=i6 h2
     rcases ZI h1 with ⟨Am,gs,sc,p,rfl⟩ | ⟨Am,gs,sc,p,rfl⟩ | ⟨k,Am,gs,sc,p,rfl⟩
     .by_cases hg:gs.length=1
      .obtain ⟨⟨t,i,Ak,a⟩,rfl⟩:=List.length_eq_one_iff.mp hg
       obtain ⟨b,hb⟩:=tY (AA:=AA) (Am:=Am) (gs:=[⟨t,i,Ak,a⟩]) (sc:=sc) (p:=p) (py:=py) (y:=y) (line:=pos.line)
       induction b using bc with
       |false=>exact base hb
       |true=>
        induction n using zc with
        |zero=>exact bad (Lm hp fun s=>rfl)
        |succ m=>
         have X':=Y m (Nat.le_succ m)
         have r':=r.less (Nat.le_succ m)
         exact cN (fun AA=>X'.ev A AA r') (fun AA=>X'.ts A AA r') hb
      .exact bad (Lm hp fun s=>jc hg)
     .exact bad (Lm hp fun s=>qc)
     .exact bad (Lm hp fun s=>ZR)
 .have hp:EC ts e=false:=by simpa using hp
  induction hs:J5 ts e using oc with
  |some q=>exact cM he hp hs
  |none=>
   refine bad ?_
   rw [Av]
   have e':step (run n) (.ex (.Assign ts e pos))=AD AG fun v=>AF (.f v):=by
    show Gh (run n) ts e=AG
    unfold Gh
    rw [aj (fun q=>Bool.noConfusion (hp.symm.trans q)),hs]
   exact congrFun (Dk e') st
theorem XA:Ih.v (run n) (.ev (.Set es k p)) st=none:=by
 match n with
 |0=>rfl
 |k+1=>rfl
theorem Uq (h:one? l=some a):l=[a]:=by
 induction l using lc with
 |nil=>exact nn h
 |cons b r=>
  induction r using lc with
  |nil=>obtain rfl:=aa h;rfl
  |cons c r=>exact nn h
theorem Yp {q:Expr × Stmt × List Stmt × Pos} (e:Nu h=some q):h = .ExceptHandler (some q.1) none (q.2.1::q.2.2.1) q.2.2.2:=by
 cases h with
 |ExceptHandler x n hb p=>
  induction x using oc with
  |none=>exact nn e
  |some x=>
   induction hb using lc with
   |nil=>exact nn e
   |cons b hb=>
    induction n using oc with
    |none=>obtain rfl:=aa e;rfl
    |some n=>exact nn e
theorem fE (e:Kq hs=some q):hs=[.ExceptHandler (some (.Name q.1.1 q.1.2)) none (q.2.1::q.2.2.1) q.2.2.2]:=by
 unfold Kq at e
 induction h1:one? hs using oc with
 |none=>rw [h1] at e;exact nn e
 |some h=>
  rw [h1] at e
  induction h2:Nu h using oc with
  |none=>rw [Option.bind_some,h2] at e;exact nn e
  |some c=>
   rw [Option.bind_some,h2] at e
   induction h3:name? c.1 using oc with
   |none=>rw [Option.bind_some,h3] at e;exact nn e
   |some x=>
    rw [Option.bind_some,h3] at e
    obtain rfl:=aa e
    rw [Uq h1,Yp h2,Hs h3]
theorem uO (X:Sound AB w n) (R:Bp A (n+1)) (A6:A.frames=some (AA::outer)) (hf:AA.frame=some L) {fin:List Stmt} :
  BO AB w A AA (exec (.Try body hs orelse fin pos) AA) st (Ih.f (run (n+1)) (.ex (.Try body hs orelse fin pos)) st):=by
 have r:=R.less (Nat.le_succ n)
 have hx:=fun ss=>X.exs A AA outer L r A6 hf ss
 induction fin using lc with
 |nil=>
  induction q:Kq hs using oc with
  |none=>exact bad (by rw [Av,IX];unfold ID;rw [q];rfl)
  |some c=>
   rw [fE q]
   exact dK A6 hf (hx _) (hx _) (fun e=>X.exs (A.mark (some e)) AA outer L r.mark A6 hf _)
 |cons f fin=>
  by_cases z:hs.length=0/\orelse.length=0
  .cases List.eq_nil_of_length_eq_zero z.1
   cases List.eq_nil_of_length_eq_zero z.2
   exact dM A6 hf (hx _) (hx _) (fun e=>X.exs (A.mark (some e)) AA outer L r.mark A6 hf _)
  .exact bad (by rw [Av,IX];exact congrFun (aj z) st)
theorem aR {e:Option Expr} (h:Hx e c=none):step ih (.ex (.Raise e c pos))=AG:=by
 show (match Hx e c with
  |some q=>AD (Iv ih q.1 q.2) fun f=>AF (Res.f f)
  |none=>AG)=_
 rw [h]
theorem aQ (h:(one? ts).bind H9 = none):step ih (.ex (.Delete ts pos))=AG:=by
 show (match (one? ts).bind H9 with
  |some q=>AD (ih.v (.ev q.1)) fun ov=>AD (ih.v (.ev q.2.1)) fun iv=>AD (F6 ov iv) fun _=>AF (Res.f .next)
  |none=>AG)=_
 rw [h]
theorem SX (h:name? t=none) (h':JF t=none):step ih (.ex (.AugAssign t op e pos))=AG:=by
 show (match name? t with
  |some x=>if Cd x.1 then AD (name x.1) fun a=>AD (ih.v (.ev e)) fun b=>AD (FD op a b) fun c=>AD (store x.1 c) fun _=>AF (Res.f .next) else AG
  |none=>match JF t with
   |some q=>AD (ih.v (.ev q.1)) fun ov=>AD (FP ov q.2.1) fun a=>AD (ih.v (.ev e)) fun b=>AD (FD op a b) fun c=>AD (H6 ov q.2.1 c) fun _=>AF (Res.f .next)
   |none=>AG)=_
 rw [h,h']
theorem OU {t:T} (h:step ih t=AG):Ih.f (step ih) t=AG:=by unfold Ih.f;rw [h];rfl
theorem uL (Y:∀k,k<=n->Sound AB w k) (R:Bp A (n+1)) (A6:A.frames=some (AA::outer)) (hf:AA.frame=some L):∀x st,BO AB w A AA (exec x AA) st (Ih.f (run (n+1)) (.ex x) st):=by
 intro x st
 have r:=R.less (Nat.le_succ n)
 have X:=Y n (ao n)
 have he:=X.ev A AA r
 have ht:=X.ts A AA r
 have hx:=fun ss=>X.exs A AA outer L r A6 hf ss
 induction x using Stmt.casesOn with
 |Return e pos=>
  induction e using oc with
  |none=>exact dI
  |some e=>exact dH (he e)
 |Delete ts pos=>
  induction hq:(one? ts).bind H9 using oc with
  |none=>exact bad (by rw [Av,OU (aQ hq)];rfl)
  |some q=>
   obtain ⟨t,h1,h2⟩:=FE hq
   rw [Uq h1,uo h2]
   exact cW he jt
 |Assign ts e pos=>exact uG Y R
 |AugAssign t op e pos=>
  induction hq:name? t using oc with
  |some x=>rw [Hs hq];exact cQ he
  |none=>
   induction GG:JF t using oc with
   |none=>exact bad (by rw [Av,OU (SX hq GG)];rfl)
   |some q=>rw [Rb GG];exact cP he UC MV
 |For t i a b pos=>
  by_cases JT:JW i=false
  .exact cZ A6 hf JT he MV Pe (hx a) (hx b)
  .induction i using Expr.casesOn <;> first | exact (JT rfl).elim | skip
   refine bad ?_
   rw [Av,Kd]
   exact BQ XA
 |While t a b pos=>exact dU A6 hf (fun k hk=>(Y k (by omega)).ts A AA (r.less (by omega)) t) (fun k hk=>(Y k (by omega)).exs A AA outer L (r.less (by omega)) A6 hf a) (fun k hk=>(Y k (by omega)).exs A AA outer L (r.less (by omega)) A6 hf b)
 |If t a b pos=>exact cg (ht t) (hx a) (hx b)
 |Raise e c pos=>
  induction hq:Hx e c using oc with
  |none=>exact bad (by rw [Av,OU (aR hq)];rfl)
  |some q=>
   obtain ⟨p,rfl,rfl⟩:=o9 hq
   exact dG he
 |Try body hs orelse fin pos=>exact uO X R A6 hf
 |Assert t m pos=>exact cK (ht t)
 |Expr e pos=>exact cY (he e)
 |Pass pos=>exact dF
 |Break pos=>exact cS
 |Continue pos=>exact cV
 |_=>exact bad rfl
theorem uM (X:Sound AB w n) (R:Bp A (n+1)) (A6:A.frames=some (AA::outer)) (hf:AA.frame=some L):∀xs st,BO AB w A AA (execs xs AA) st (Ih.f (run (n+1)) (.exs xs) st):=by
 intro xs st
 have r:=R.less (Nat.le_succ n)
 induction xs using lc with
 |nil=>exact dm
 |cons x r'=>exact dh (fun st=>X.ex A AA outer L r A6 hf x st) (fun st=>X.exs A AA outer L r A6 hf r' st)
theorem uF:∀n,∀k,k<=n->Sound AB w k:=by
 intro n_
 induction n_ with
 |zero=>
  intro k h
  rw [Nat.le_zero.mp h];exact uR
 |succ n AU=>
  intro k h
  by_cases hk:k<=n
  .exact AU k hk
  .have e:k=n+1:=by omega
   subst e
   have Y:=AU
   have X:=Y n (ao n)
   exact ⟨fun A AA R e st=>uJ X R e st,fun A AA R e st=>uK X R e st,fun A AA R e st=>uP X R e st,fun A AA outer L R A6 hf x st=>uL Y R A6 hf x st,
    fun A AA outer L R A6 hf x st=>uM X R A6 hf x st,fun A AA R=>uH X R,fun A AA R=>uN X R⟩
theorem sound (n:Nat):Sound AB w n:=uF n n (ao n)
end
section
open PySem
variable {L k i j:Nat} {X hp:List O} {α β:Type} {l:List V} {v:Str × V} {c c':Prop} {o:O} {f:α->α} {g:β->β} {m' a' b' m:M α} {a b:α} {o':Option α}
noncomputable def rn (L k i:Nat):Nat:=if i<L then i else i+k
mutual
noncomputable def V.rn (L k:Nat):V->V
 | .ref i=>.ref (Mine.rn L k i)
 | .lst l=>.lst (V.Af L k l)
 | .tup l=>.tup (V.Af L k l)
 | .dct l=>.dct (V.BI L k l)
 | .vals i=>.vals (Mine.rn L k i)
 | .bm id i=>.bm id (Mine.rn L k i)
 | .none=>.none
 | .bool b=>.bool b
 | .int i=>.int i
 | .str s=>.str s
 | .rng n=>.rng n
 | .glob a=>.glob a
 | .bi id=>.bi id
 | .ty n=>.ty n
noncomputable def V.Af (L k:Nat):List V->List V
 | []=>[]
 |v::r=>v.rn L k::V.Af L k r
noncomputable def V.BI (L k:Nat):List (Str × V)->List (Str × V)
 | []=>[]
 |p::r=>(p.1,p.2.rn L k)::V.BI L k r
end
theorem QD:V.rn L k (.ref i) = .ref (Mine.rn L k i):=rfl
theorem pM {v:V}:V.Af L k (v::l)=v.rn L k::V.Af L k l:=rfl
theorem QE {l:Loc}:V.BI L k (v::l)=(v.1,v.2.rn L k)::V.BI L k l:=rfl
theorem Dn:∀l:List V,V.Af L k l=l.map (V.rn L k):=by
 intro l_
 induction l_ with
 |nil=>
  exact rfl
 |cons v r AU=>
  exact congrArg (v.rn L k :: ·) AU
theorem Iw:∀l:List (Str × V),V.BI L k l=l.map fun p=>(p.1,p.2.rn L k):=by
 intro l_
 induction l_ with
 |nil=>
  exact rfl
 |cons v r AU=>
  exact congrArg ((v.1,v.2.rn L k) :: ·) AU
def O.rn (L k:Nat):O->O
 | .list l=>.list (V.Af L k l)
 | .dict l c=>.dict (V.BI L k l) c
 | .set l=>.set l
 | .inst l=>.inst (V.BI L k l)
 | .node n p s=>.node (n.map (V.rn L k)) (p.map (V.rn L k)) (s.map (V.rn L k))
 | .iter l i=>.iter (Mine.rn L k l) i
 | .obj=>.obj
 | .gone=>.gone
 | .tab=>.tab
def ins (L k:Nat) (X hp:List O):List O:=(hp.take L).map (O.rn L k)++X++(hp.drop L).map (O.rn L k)
theorem QC:rn L k i<rn L k j<->i<j:=by unfold rn;split <;> split <;> lia
theorem VF:rn L k i<=rn L k j<->i<=j:=by unfold rn;split <;> split <;> lia
theorem MO (h:L<=hp.length) (hx:X.length=k):(ins L k X hp).length=rn L k hp.length:=by
 unfold ins rn
 rw [aj (by lia)]
 simp only [List.length_append,bu,List.length_take,List.length_drop]
 lia
set_option tactic.hygienic true in
theorem PM (h:L<=hp.length) (hx:X.length=k) (i:Nat):(ins L k X hp)[rn L k i]? = (hp[i]?).map (O.rn L k):=by
 unfold ins rn
 split
 .rename_i hi
  rw [List.append_assoc,bw (by simp;lia)]
  simp [List.getElem?_take,hi]
 .rename_i hi
  rw [List.getElem?_append_right (by simp;lia)]
  simp only [List.length_append,bu,List.length_take,List.getElem?_map,List.getElem?_drop]
  congr 2
  lia
theorem iU (h:L<=hp.length) (o:O):ins L k X (hp++[o])=ins L k X hp++[o.rn L k]:=by
 unfold ins
 rw [List.take_append_of_le_length h,List.drop_append_of_le_length h]
 simp
set_option tactic.hygienic true in
theorem iV (h:L<=hp.length) (hx:X.length=k) (i:Nat) (o:O):ins L k X (hp.set i o)=(ins L k X hp).set (rn L k i) (o.rn L k):=by
 apply List.ext_getElem?
 intro j
 rw [List.getElem?_set]
 by_cases hj:rn L k i=j
 .subst hj
  rw [PM (by simpa using h) hx,MO h hx,ak rfl,List.getElem?_set]
  simp only [if_true,QC]
  split <;> rfl
 .rw [aj hj]
  unfold ins rn at *
  split at hj
  .rename_i hi
   rw [List.drop_set_of_lt hi]
   simp only [List.getElem?_append,List.length_append,bu,List.length_take,List.length_set,List.getElem?_map,List.getElem?_take,List.getElem?_set,hj,if_false]
  .rename_i hi
   rw [List.take_set_of_le (by lia)]
   simp only [List.getElem?_append,List.length_append,bu,List.length_take,List.getElem?_map,List.getElem?_drop,List.getElem?_set]
   split
   .rfl
   .rw [aj (by lia)]
structure SR (L k:Nat) (X:List O) (s t:S):Prop where
 sc:t.sc=s.sc
 hd:t.hd=s.hd
 lo:t.lo<=rn L k s.lo
 len:L<=s.hp.length
 hx:X.length=k
 hp:t.hp=ins L k X s.hp
 AA:∀x v,AN x s.AA=some v->AN x t.AA=some (v.rn L k)
def RD {α:Type} (L k:Nat) (X:List O) (f:α->α):Out α->Out α->Prop
 | .ok a s,.ok b t=>b=f a/\SR L k X s t
 | .ex c s,.ex d t=>d=c/\SR L k X s t
 |_,_=>False
def SM {α:Type} (L k:Nat) (X:List O) (f:α->α) (m m':M α):Prop:=∀s t,SR L k X s t->∀o,m s=some o->∃o',m' t=some o'/\RD L k X f o o'
theorem AX:SM L k X f AG m':=fun s t R o h=>by cases h
theorem An:SM L k X f (AF a) (AF (f a)):=fun s t R o h=>by obtain rfl:=aa h;exact ⟨_,rfl,rfl,R⟩
theorem G8 (h:b=f a):SM L k X f (AF a) (AF b):=h ▸ An
theorem AQ {m m':M α} {h h':α->M β} (x:SM L k X f m m') (y:∀a,SM L k X g (h a) (h' (f a))):SM L k X g (AD m h) (AD m' h'):=fun s t R o e=>by
 unfold AD at e ⊢
 induction q:m s using oc with
 |none=>rw [q] at e;cases e
 |some r=>
  rw [q] at e
  obtain ⟨r',e',z⟩:=x s t R r q
  rw [e']
  induction r using uc with
  |ok a s'=>
   induction r' using uc with
   |ok b t'=>obtain ⟨rfl,R'⟩:=z;exact y a s' t' R' o e
   |ex c t'=>exact z.elim
  |ex c s'=>
   induction r' using uc with
   |ok b t'=>exact z.elim
   |ex d t'=>obtain ⟨rfl,R'⟩:=z;obtain rfl:=aa e;exact ⟨_,rfl,rfl,R'⟩
theorem CT [Decidable c] [Decidable c'] {a b:M α} (hc:c<->c') (x:SM L k X f a a') (y:SM L k X f b b'):SM L k X f (if c then a else b) (if c' then a' else b'):=by
 by_cases h:c
 .rw [ak h,ak (hc.mp h)];exact x
 .rw [aj h,aj (fun q=>h (hc.mpr q))];exact y
theorem BD [Decidable c] [Decidable c'] {a:M α} (hc:c->c') (x:SM L k X f a a'):SM L k X f (if c then a else AG) (if c' then a' else m):=by
 by_cases h:c
 .rw [ak h,ak (hc h)];exact x
 .rw [aj h];exact AX
theorem H7 {o:Option α} (h:∀a,o=some a->o'=some (f a)):SM L k X f (BR o) (BR o'):=by
 induction o using oc with
 |none=>exact AX
 |some a=>rw [h a rfl];exact An
theorem Dp {i:Nat}:SM L k X (O.rn L k) (A4 i) (A4 (rn L k i)):=fun s t R o h=>by
 unfold A4 at h ⊢
 rw [R.hp,PM R.len R.hx]
 induction q:s.hp[i]? using oc with
 |none=>rw [q] at h;cases h
 |some ob=>rw [q] at h;obtain rfl:=aa h;exact ⟨_,rfl,rfl,R⟩
set_option tactic.hygienic true in
theorem GU:SM L k X id (BJ i o) (BJ (rn L k i) (o.rn L k)):=fun s t R r h=>by
 unfold BJ at h ⊢
 split at h
 .rename_i hl
  obtain rfl:=aa h
  rw [ak (bg R.lo (VF.mpr hl))]
  exact ⟨_,rfl,rfl,R.sc,R.hd,R.lo,by simpa using R.len,R.hx,by rw [iV R.len R.hx,R.hp],R.AA⟩
 .cases h
theorem I3:SM L k X (V.rn L k) (newObj o) (newObj (o.rn L k)):=fun s t R r h=>by
 obtain rfl:=aa h
 refine ⟨_,rfl,?_,R.sc,R.hd,R.lo,by have:=R.len;simp;lia,R.hx,by rw [iU R.len,R.hp],R.AA⟩
 rw [R.hp,MO R.len R.hx,QD]
set_option tactic.hygienic true in
theorem QZ {c:String}:SM L k X f (DL c) (DL c):=fun s t R o h=>by
 unfold DL at h ⊢
 rw [R.hd]
 split at h
 .rename_i q;obtain rfl:=aa h;rw [ak q];exact ⟨_,rfl,rfl,R⟩
 .rename_i q
  rw [aj q]
  split at h
  .rename_i q';obtain rfl:=aa h;rw [ak q'];exact ⟨_,rfl,rfl,R⟩
  .cases h
set_option tactic.hygienic true in
theorem Mx (x:SM L k X f m m'):SM L k X f (Er m) (Er m'):=fun s t R o h=>by
 unfold Mine.Er at h ⊢
 rw [R.hd]
 split at h
 .rename_i q;rw [ak q];exact x s t R o h
 .cases h
theorem Vk (x:SM L k X f m m'):SM L k X f (fun s=>if s.hd=0 then m s else .none) (fun s=>if s.hd=0 then m' s else .none):=Mx x
theorem Dc (l:List V):(V.Af L k l).length=l.length:=by rw [Dn];simp
theorem QF (l:List (Str × V)):(V.BI L k l).length=l.length:=by rw [Iw];simp
theorem Mm (a b:List V):V.Af L k (a++b)=V.Af L k a++V.Af L k b:=by simp [Dn]
theorem QG (l:List V) (i:Nat):(V.Af L k l)[i]? = (l[i]?).map (V.rn L k):=by simp [Dn]
theorem Gm (x:Str):∀l:List (Str × V),AN x (V.BI L k l)=(AN x l).map (V.rn L k):=by
 intro l_
 induction l_ with
 |nil=>
  exact rfl
 |cons BN r AU=>
  obtain ⟨y,v⟩:=BN
  show AN x ((y,v.rn L k)::V.BI L k r)=_
  rw [Ca,Ca]
  split
  .rfl
  .exact AU
theorem VU (x:Str) (v:V):∀l:List (Str × V),V.BI L k (Ao x v l)=Ao x (v.rn L k) (V.BI L k l):=by
 intro l_
 induction l_ with
 |nil=>
  exact rfl
 |cons BN r AU=>
  obtain ⟨y,u⟩:=BN
  show _=Ao x (v.rn L k) ((y,u.rn L k)::V.BI L k r)
  rw [I1,I1]
  split
  .rfl
  .exact congrArg ((y,u.rn L k) :: ·) AU
theorem ZW (x:Str):∀l:List (Str × V),V.BI L k (CX x l)=CX x (V.BI L k l):=by
 intro l_
 induction l_ with
 |nil=>
  exact rfl
 |cons BN r AU=>
  obtain ⟨y,u⟩:=BN
  show _=CX x ((y,u.rn L k)::V.BI L k r)
  rw [KW,KW]
  split
  .rfl
  .exact congrArg ((y,u.rn L k) :: ·) AU
theorem Hg (x y:Str) (v:V):∀l:Loc,AN y (Ao x v l)=if y=x then some v else AN y l:=by
 intro l_
 induction l_ with
 |nil=>
  simp only [Ao,AN]
  by_cases h:y=x
  .subst h;simp
  .rw [aj (fun q=>h (eq_of_beq q).symm),aj h]
 |cons BN r AU=>
  obtain ⟨z,u⟩:=BN
  simp only [Ao]
  by_cases hz:(z==x)=true
  .have:=eq_of_beq hz
   subst this
   simp only [hz,if_true,AN]
   by_cases h:y=z
   .subst h;simp
   .rw [aj (fun q=>h (eq_of_beq q).symm),aj h,aj (fun q=>h (eq_of_beq q).symm)]
  .simp only [aj hz,AN]
   by_cases hy:(z==y)=true
   .have:=eq_of_beq hy
    subst this
    rw [ak hy,ak hy,aj (fun q=>hz (by rw [q];simp))]
   .rw [aj hy,aj hy,AU]
theorem v7:V.BI L k Df=Df:=by rfl
theorem Vq {x:Str}:SM L k X (V.rn L k) (name x) (name x):=fun s t R o h=>by
 have T:=Gm (L:=L) (k:=k) x Df
 rw [v7] at T
 unfold Mine.name at h ⊢
 rw [R.sc]
 have AA:∀{o},(match AN x s.AA with | some v=>some (.ok v s) | .none=>.none)=some o->∃o',(match AN x t.AA with | some v=>some (.ok v t) | .none=>.none)=some o'/\RD L k X (V.rn L k) o o':=fun {o} h=>by
  induction q:AN x s.AA using oc with
  |none=>rw [q] at h;exact nn h
  |some v=>rw [q] at h;obtain rfl:=aa h;rw [R.AA x v q];exact ⟨_,rfl,rfl,R⟩
 induction hk:s.sc.lookup x using oc with
 |none=>rw [hk] at h;exact nn h
 |some kd=>
  rw [hk] at h
  induction kd using NameKind.casesOn with
  |globalImplicit=>
   dsimp only at h ⊢
   induction q:AN x Df using oc with
   |none=>rw [q] at h;exact nn h
   |some v=>
    rw [q] at h T
    obtain rfl:=aa h
    exact ⟨_,rfl,aa T,R⟩
  |globalExplicit=>exact nn h
  | «local»=>exact AA h
  |cell=>exact AA h
  |free=>exact AA h
theorem H8 {x:Str} {v:V}:SM L k X id (store x v) (store x (v.rn L k)):=fun s t R o h=>by
 have ok:SR L k X {s with AA:=Ao x v s.AA} {t with AA:=Ao x (v.rn L k) t.AA}:=⟨R.sc,R.hd,R.lo,R.len,R.hx,R.hp,fun y u e=>by
  have e:AN y (Ao x v s.AA)=some u:=e
  show AN y (Ao x (v.rn L k) t.AA)=_
  rw [Hg] at e ⊢
  split at e
  .obtain rfl:=aa e;rw [ak (by assumption)]
  .rw [aj (by assumption)];exact R.AA y u e⟩
 unfold Mine.store at h ⊢
 have Ij:=R.sc
 induction hk:s.sc.lookup x using oc with
 |none=>rw [hk] at h;exact nn h
 |some kd=>
  rw [hk] at h
  induction kd using NameKind.casesOn with
  |globalImplicit=>exact nn h
  |globalExplicit=>exact nn h
  | «local»=>obtain rfl:=aa h;rw [show t.sc.lookup x=some .local from by rw [Ij];exact hk];exact ⟨_,rfl,rfl,ok⟩
  |cell=>obtain rfl:=aa h;rw [show t.sc.lookup x=some .cell from by rw [Ij];exact hk];exact ⟨_,rfl,rfl,ok⟩
  |free=>exact nn h
theorem Hj (v:V):(v.rn L k).int? = v.int?:=by induction v using V.casesOn <;> rfl
theorem LU (v:V):(v.rn L k).B7 = v.B7:=by induction v using V.casesOn <;> rfl
theorem lE (v:V):(v.rn L k).Gz = v.Gz.map (V.Af L k):=by induction v using V.casesOn <;> rfl
theorem wY (v:V):(v.rn L k).I8 = v.I8.map (V.Af L k):=by induction v using V.casesOn <;> rfl
theorem RS {f:V->V->Option Bool} (hf:∀x y r,f x y=some r->f (x.rn L k) (y.rn L k)=some r) (a b:List V) (r:Bool) (h:V.eq.all2 f a b=some r):V.eq.all2 f (V.Af L k a) (V.Af L k b)=some r:=by
 induction a generalizing b r with
 |nil=>exact h
 |cons x a ih=>
  induction b using lc with
  |nil=>exact h
  |cons y b=>
   obtain ⟨p,q,hp,hq,e⟩:=DG h
   show both (f (x.rn L k) (y.rn L k)) (V.eq.all2 f (V.Af L k a) (V.Af L k b)) _=some r
   rw [hf _ _ _ hp,ih _ _ hq]
   exact e
theorem SH (n:Nat) (x y:V) (r:Bool) (h:V.eq n x y=some r):V.eq n (x.rn L k) (y.rn L k)=some r:=by
 induction n generalizing x y r with
 |zero=>exact nn h
 |succ n ih=>
  have em:∀l:List V,(V.Af L k l).isEmpty=l.isEmpty:=fun l=>by induction l using lc <;> rfl
  induction x using V.casesOn with
  |bool a=>obtain ⟨b,rfl,_⟩:=OI h;exact h
  |int a=>obtain ⟨b,rfl,_⟩:=OJ h;exact h
  |str a=>obtain ⟨b,rfl,_⟩:=ON h;exact h
  |lst a=>
   obtain ⟨b,rfl,e⟩:=OL h
   show (if (V.Af L k a).length=(V.Af L k b).length then V.eq.all2 (V.eq n) (V.Af L k a) (V.Af L k b) else some false)=some r
   rw [Dc,Dc]
   by_cases hl:a.length=b.length
   .rw [ak hl] at e ⊢;exact RS ih _ _ _ e
   .rw [aj hl] at e ⊢;exact e
  |tup a=>
   obtain ⟨b,rfl,e⟩:=OO h
   show (if (V.Af L k a).length=(V.Af L k b).length then V.eq.all2 (V.eq n) (V.Af L k a) (V.Af L k b) else if (V.Af L k a).isEmpty || (V.Af L k b).isEmpty then some false else none)=some r
   rw [Dc,Dc,em,em]
   by_cases hl:a.length=b.length
   .rw [ak hl] at e ⊢;exact RS ih _ _ _ e
   .rw [aj hl] at e ⊢;exact e
  |_=>exact nn h
end
section
open PySem
variable {L k n m N f i j κ q hd:Nat} {X hp:List O} {α β γ σ:Type} {ih Ac:Ih} {s t s' w w1 w2 w3 r t' st e0 s0 w0 w':S} {a:T} {fl f1:Fl} {v o Ai ov iv rd:V} {b kd b1 b2:Bool} {as vs R:List V} {l E':Loc} {fi:Int->Int->Bool} {fs:Str->Str->Bool} {op:Operator} {lo:Option Int} {e target Am iter E c I:Expr} {es Ak ts args:List Expr} {body orelse hb ss xs ys:List Stmt} {asy po:Int} {pos p ap cp:Pos} {m':M Fl} {hs:List ExceptHandler} {rs:List (Nat × List Nat)} {np:Nat->Int} {sc:Nat->List Nat} {g:γ->γ} {x:Option α} {y:Option β} {f':α->β->M γ} {vV:α->V} {stp:σ->α->σ} {Inv:List α->σ->Prop} {ea:α->S} {c0:σ}
theorem G6 {f:α->β->M γ} (h:∀a b,SM L k X g (f a b) (f' a b)):SM L k X g (BY x y f) (BY x y f'):=by
 induction x using oc with
 |none=>exact AX
 |some a=>induction y using oc with
  |none=>exact AX
  |some b=>exact h a b
theorem RW {p:V->Option α} (hp:∀v,p (v.rn L k)=p v) (l:List V):DP p (V.Af L k l)=DP p l:=by
 induction l with
 |nil=>rfl
 |cons x l ih=>
  show both (p (x.rn L k)) (DP p (V.Af L k l)) _=both (p x) (DP p l) _
  rw [hp,ih]
theorem PS (l:List V):Mine.Cb (V.Af L k l)=Mine.Cb l:=RW Hj l
theorem M8 (l:List V):Mine.CU (V.Af L k l)=Mine.CU l:=RW LU l
theorem G7:SM L k X (V.Af L k) (items v) (items (v.rn L k)):=by
 induction v using V.casesOn with
 |lst l=>exact An
 |tup l=>exact An
 |ref i=>
  refine AQ (f:=O.rn L k) Dp fun o=>?_
  induction o using O.casesOn <;> first | exact An | exact AX
 |_=>exact AX
theorem i8 (v:V):isNone (v.rn L k)=isNone v:=by induction v using V.casesOn <;> rfl
theorem VM {a b:V} {r:Bool} (h:same a b=some r):same (a.rn L k) (b.rn L k)=some r:=by
 rcases VL h with ⟨rfl,e⟩ | ⟨x,y,rfl,rfl,_⟩ | ⟨i,rfl,rfl,rfl⟩ | ⟨x,j,rfl,rfl,_⟩
 .exact (i8 a).trans e
 .exact h
 .exact ak rfl
 .exact h
theorem V0:SM L k X id (Fv v) (Fv (v.rn L k)):=by
 have gen:SM L k X id (AD (items v) fun l=>AF (!l.isEmpty)) (AD (items (v.rn L k)) fun l=>AF (!l.isEmpty)):=AQ G7 fun a=>G8 (by induction a using lc <;> rfl)
 induction v using V.casesOn <;> first | exact An | exact gen
theorem Z2 {x:V} {l:List V} {r:Bool} (h:Lu x l=some r):Lu (x.rn L k) (V.Af L k l)=some r:=by
 induction x using V.casesOn with
 |int i=>show (Mine.Cb (V.Af L k l)).map _=_;rw [PS];exact h
 |str i=>show (Mine.CU (V.Af L k l)).map _=_;rw [M8];exact h
 |_=>exact nn h
theorem Vm {a b:V}:SM L k X id (JV a b) (JV (a.rn L k) (b.rn L k)):=AQ G7 fun l=>H7 fun r=>Z2
theorem Vn {a b:V}:SM L k X id (inside a b) (inside (a.rn L k) (b.rn L k)):=by
 induction b using V.casesOn with
 |str y=>induction a using V.casesOn <;> first | exact An | exact AX
 |ref i=>
  induction a using V.casesOn with
  |str x=>
   refine AQ (f:=O.rn L k) Dp fun o=>?_
   induction o using O.casesOn <;> first | exact AX | exact An | exact G8 (by rw [Gm];cases AN x _ <;> rfl)
  |_=>exact Vm (b:=.ref i)
 |_=>exact Vm
theorem My:SM L k X (V.rn L k) (FN v) (FN (v.rn L k)):=by
 induction v using V.casesOn with
 |ref i=>
  refine AQ (f:=O.rn L k) Dp fun o=>?_
  induction o using O.casesOn <;> first | exact An | exact AX
 |_=>exact An
theorem Vv {a b:V} {c:V->V->M Bool} (hc:∀a,c a b=match a with | .int x=>BY (some x) b.int? fun x y=>AF (fi x y) | .str x=>BY (some x) b.B7 fun x y=>AF (fs x y) | _=>AG)
  (Om:∀a,c a (b.rn L k)=match a with | .int x=>BY (some x) (b.rn L k).int? fun x y=>AF (fi x y) | .str x=>BY (some x) (b.rn L k).B7 fun x y=>AF (fs x y) | _=>AG):SM L k X id (c a b) (c (a.rn L k) (b.rn L k)):=by
 rw [hc,Om,Hj,LU]
 induction a using V.casesOn with
 |int x=>exact G6 fun _ _=>An
 |str x=>exact G6 fun _ _=>An
 |_=>exact AX
theorem QW {op:CmpOp} {a b:V}:SM L k X id (cmp op a b) (cmp op (a.rn L k) (b.rn L k)):=by
 have neg:∀{m m':M Bool},SM L k X id m m'->SM L k X id (AD m fun c=>AF !c) (AD m' fun c=>AF !c):=fun x=>AQ x fun a=>An
 induction op using CmpOp.casesOn with
 |Is=>exact H7 fun r=>VM
 |IsNot=>exact neg (H7 fun r=>VM)
 |In=>exact Vn
 |NotIn=>exact neg Vn
 |Eq=>exact AQ My fun x=>AQ My fun y=>H7 fun r=>SH _ _ _ _
 |NotEq=>exact AQ My fun x=>AQ My fun y=>neg (H7 fun r=>SH _ _ _ _)
 |Lt=>exact Vv (fun _=>rfl) fun _=>rfl
 |Gt=>exact Vv (fun _=>rfl) fun _=>rfl
 |GtE=>
  show SM L k X id (BY a.int? b.int? _) (BY (a.rn L k).int? (b.rn L k).int? _)
  rw [Hj,Hj]
  exact G6 fun _ _=>An
 |LtE=>exact AX
theorem Jy:SM L k X (V.Af L k) (listItems v) (listItems (v.rn L k)):=by
 have e:Gv (v.rn L k)=Gv v:=by induction v using V.casesOn <;> rfl
 exact BD (fun h=>e.trans h) G7
theorem Jz {l:List V}:SM L k X (V.rn L k) (Bb l) (Bb (V.Af L k l)):=by
 unfold Mine.Bb
 exact BD (fun h=>by rw [Dc];exact h) An
theorem Vp {l:List V}:SM L k X (V.rn L k) (D7 l) (D7 (V.Af L k l)):=by
 unfold Mine.D7
 exact BD (fun h=>by rw [Dc];exact h) An
theorem Vs {l:List V}:SM L k X (V.rn L k) (newL l) (newL (V.Af L k l)):=by
 unfold Mine.newL
 exact BD (fun h=>by rw [Dc];exact h) I3
theorem sZ {l:List V}:SM L k X id (CO i l) (CO (rn L k i) (V.Af L k l)):=by
 unfold Mine.CO
 exact BD (fun h=>by rw [Dc];exact h) GU
theorem q9 {a b:V}:SM L k X (V.rn L k) (KR a b) (KR (a.rn L k) (b.rn L k)):=by
 have gen:SM L k X (V.rn L k) (AD (listItems a) fun l=>AD (listItems b) fun r=>Bb (l++r)) (AD (listItems (a.rn L k)) fun l=>AD (listItems (b.rn L k)) fun r=>Bb (l++r)):=
  AQ Jy fun l=>AQ Jy fun r=>by rw [<-Mm];exact Jz
 induction a using V.casesOn with
 |int x=>
  show SM L k X (V.rn L k) (BY (some x) b.int? fun x y=>AF (V.int (x+y))) (BY (some x) (b.rn L k).int? fun x y=>AF (V.int (x+y)))
  rw [Hj];exact G6 fun _ _=>An
 |str x=>
  show SM L k X (V.rn L k) (BY (some x) b.B7 fun x y=>if (x++y).length<=1000 then AF (V.str (x++y)) else AG) (BY (some x) (b.rn L k).B7 fun x y=>if (x++y).length<=1000 then AF (V.str (x++y)) else AG)
  rw [LU];exact G6 fun _ _=>BD id An
 |_=>exact gen
theorem pO (n:Nat) (l:List V):V.Af L k (List.replicate n l).flatten=(List.replicate n (V.Af L k l)).flatten:=by
 simp [Dn]
theorem sH {a b:V}:SM L k X (V.rn L k) (MZ a b) (MZ (a.rn L k) (b.rn L k)):=by
 show SM L k X _ (BY a.Gz b.int? _) (BY (a.rn L k).Gz (b.rn L k).int? _)
 rw [lE,Hj]
 induction a.Gz using oc with
 |none=>exact AX
 |some l=>induction b.int? using oc with
  |none=>exact AX
  |some n=>exact BD id (by have:=Jz (L:=L) (k:=k) (X:=X) (l:=(List.replicate n.toNat l).flatten);rw [pO] at this;exact this)
theorem LO {f:Int->Int->Option Int} {a b:V}:SM L k X (V.rn L k) (FZ f a b) (FZ f (a.rn L k) (b.rn L k)):=by
 show SM L k X _ (BY a.int? b.int? _) (BY (a.rn L k).int? (b.rn L k).int? _)
 rw [Hj,Hj]
 refine G6 fun x y=>?_
 induction f x y using oc with
 |none=>exact AX
 |some z=>exact An
theorem Vd {a b:V}:SM L k X (V.rn L k) (DF op a b) (DF op (a.rn L k) (b.rn L k)):=by
 induction op using Operator.casesOn with
 |Add=>exact q9
 |Mult=>exact sH
 |Sub=>exact LO (f:=fun x y=>some (x-y))
 |FloorDiv=>exact LO (f:=fun x y=>if 0<y/\y<1000 then some (Int.fdiv x y) else .none)
 |Mod=>exact LO (f:=fun x y=>if 0<y/\y<1000 then some (Int.fmod x y) else .none)
 |_=>exact AX
theorem Vc {a b:V}:SM L k X (V.rn L k) (FD op a b) (FD op (a.rn L k) (b.rn L k)):=by
 induction op using Operator.casesOn with
 |Add=>exact LO (f:=fun x y=>some (x+y))
 |Sub=>exact LO (f:=fun x y=>some (x-y))
 |_=>exact AX
theorem pP (l:List Str):V.Af L k (l.map .str)=l.map .str:=by
 rw [Dn,List.map_map];rfl
theorem QX {l:List (Str × V)} {x:Str}:SM L k X (V.rn L k) (BR (AN x l)) (BR (AN x (V.BI L k l))):=by
 rw [Gm]
 exact H7 fun a e=>by rw [e];rfl
theorem Vw {n:Int}:SM L k X (V.rn L k) (LL o n) (LL (o.rn L k) n):=by
 have ht:Gv (o.rn L k)=Gv o:=by induction o using V.casesOn <;> rfl
 refine AQ G7 fun l=>?_
 rw [Dc,ht]
 induction place l.length n using oc with
 |some j=>
  dsimp only
  rw [QG]
  exact H7 fun a e=>by rw [e];rfl
 |none=>exact CT Iff.rfl QZ AX
theorem s6 {s:Str} {n:Int}:SM L k X (V.rn L k) (J0 s n) (J0 s n):=by
 unfold J0
 induction place s.cps.size n using oc with
 |some j=>exact An
 |none=>exact AX
theorem r9 {x:Str}:SM L k X (V.rn L k) (K7 o x) (K7 (o.rn L k) x):=by
 induction o using V.casesOn with
 |dct l=>exact QX
 |ref r=>
  refine AQ (f:=O.rn L k) Dp fun o=>?_
  induction o using O.casesOn <;> first | exact AX | exact QX
 |_=>exact AX
theorem rZ {i:V}:SM L k X (V.rn L k) (item o i) (item (o.rn L k) (i.rn L k)):=by
 induction i using V.casesOn with
 |int n=>induction o using V.casesOn <;> first | exact s6 | exact Vw (o:=.none) | exact Vw
 |str x=>exact r9
 |_=>exact AX
theorem pN (l:List V) (a b:Nat):V.Af L k (cut l a b)=cut (V.Af L k l) a b:=by
 simp only [Dn,cut,List.map_take,List.map_drop]
theorem sq {up:Option Int}:SM L k X (V.rn L k) (Ej o lo up) (Ej (o.rn L k) lo up):=by
 have gen:SM L k X (V.rn L k) (AD (listItems o) fun l=>Bb (cut l (lo.elim 0 (clip l.length)) (up.elim l.length (clip l.length)))) (AD (listItems (o.rn L k)) fun l=>Bb (cut l (lo.elim 0 (clip l.length)) (up.elim l.length (clip l.length)))):=by
  refine AQ Jy fun l=>?_
  rw [Dc,<-pN]
  exact Jz
 induction o using V.casesOn <;> first | exact An | exact gen
theorem sF {l:List V}:SM L k X (V.rn L k) (maxV l) (maxV (V.Af L k l)):=by
 unfold maxV
 rw [PS,M8]
 induction (Mine.Cb l).bind GX using oc with
 |some q=>exact An
 |none=>induction (Mine.CU l).bind GX using oc with
  |some q=>exact An
  |none=>exact AX
theorem sG {l:List V}:SM L k X (V.rn L k) (Je l) (Je (V.Af L k l)):=by
 unfold Je
 rw [PS]
 induction (Mine.Cb l).bind GX using oc with
 |some q=>exact An
 |none=>exact AX
theorem sC:SM L k X (V.rn L k) (lenV v) (lenV (v.rn L k)):=by
 have gen:SM L k X (V.rn L k) (AD (items v) fun l=>AF (V.int l.length)) (AD (items (v.rn L k)) fun l=>AF (V.int l.length)):=AQ G7 fun l=>G8 (by rw [Dc];rfl)
 induction v using V.casesOn <;> first | exact An | exact gen
theorem su:SM L k X (V.rn L k) (M6 v) (M6 (v.rn L k)):=by
 refine AQ G7 fun l=>?_
 rw [M8]
 induction Mine.CU l using oc with
 |none=>exact AX
 |some s=>exact BD (fun h=>h) (by have:=Jz (L:=L) (k:=k) (X:=X) (l:=(DB s).map .str);rw [pP] at this;exact this)
theorem rz:SM L k X (V.rn L k) (MP v) (MP (v.rn L k)):=by
 induction v using V.casesOn with
 |ref i=>
  refine AQ (f:=O.rn L k) Dp fun o=>?_
  induction o using O.casesOn <;> first | exact AX | exact I3
 |_=>exact AX
theorem rY {t:V}:SM L k X (V.rn L k) (K5 v t) (K5 (v.rn L k) (t.rn L k)):=by
 induction v using V.casesOn with
 |str s=>
  induction t using V.casesOn with
  |ty n=>exact BD id An
  |_=>exact AX
 |_=>exact AX
theorem q8:SM L k X (V.rn L k) (Ng v) (Ng (v.rn L k)):=by
 induction v using V.casesOn <;> first | exact AX | exact An
theorem rE {id:String}:SM L k X (V.rn L k) (JG id v) (JG id (v.rn L k)):=
 CT Iff.rfl sC <| CT Iff.rfl q8 <| CT Iff.rfl (Mx (AQ Jy fun _=>sF)) <| CT Iff.rfl (Mx (AQ Jy fun _=>sG)) <| CT Iff.rfl su <| BD (fun h=>h) rz
theorem Ve {id:String}:SM L k X (V.rn L k) (builtin id as) (builtin id (V.Af L k as)):=by
 induction as using lc with
 |nil=>exact AX
 |cons v r=>induction r using lc with
  |nil=>exact rE
  |cons t r=>induction r using lc with
   |nil=>exact BD (fun h=>h) rY
   |cons _ _=>exact AX
theorem sR:SM L k X (V.rn L k) (Jp v) (Jp (v.rn L k)):=by
 induction v using V.casesOn with
 |int i=>exact BD (fun h=>h) An
 |_=>exact AX
theorem V1 {n:String}:SM L k X (V.rn L k) (JA n as) (JA n (V.Af L k as)):=by
 induction as using lc with
 |nil=>exact CT Iff.rfl I3 (BD (fun h=>h) I3)
 |cons v r=>induction r using lc with
  |nil=>exact CT Iff.rfl sR (BD (fun h=>h) (AQ G7 fun l=>Vp))
  |cons _ _=>exact AX
theorem M3 {l:List V}:SM L k X (V.rn L k) (AD (CO i l) fun _=>AF v) (AD (CO (rn L k i) (V.Af L k l)) fun _=>AF (v.rn L k)):=AQ sZ fun _=>An
theorem sO {l:List V}:SM L k X (V.rn L k) (Ir i l) (Ir (rn L k i) (V.Af L k l)):=by
 have e1:(V.Af L k l).getLast? = l.getLast?.map (V.rn L k):=by rw [Dn,List.getLast?_map]
 have e2:(V.Af L k l).dropLast=V.Af L k l.dropLast:=by rw [Dn,Dn,List.map_dropLast]
 unfold Ir
 rw [e1,e2]
 induction l.getLast? using oc with
 |none=>exact AX
 |some v=>exact M3
theorem sD {l:List V} {nm:String}:SM L k X (V.rn L k) (Dm i l nm as) (Dm (rn L k i) (V.Af L k l) nm (V.Af L k as)):=by
 induction as using lc with
 |nil=>exact CT Iff.rfl (M3 (l:=[]) (v:=.none)) (BD (fun h=>h) sO)
 |cons v r=>induction r using lc with
  |nil=>
   refine CT Iff.rfl ?_ (BD (fun h=>h) (AQ Jy fun r=>?_))
   .have:=M3 (L:=L) (k:=k) (X:=X) (i:=i) (l:=l++[v]) (v:=.none)
    rw [Mm] at this
    exact this
   .have:=M3 (L:=L) (k:=k) (X:=X) (i:=i) (l:=l++r) (v:=.none)
    rw [Mm] at this
    exact this
  |cons _ _=>exact AX
theorem rM {nm:String}:SM L k X (V.rn L k) (F7 i l nm as) (F7 (rn L k i) (V.BI L k l) nm (V.Af L k as)):=by
 induction as using lc with
 |nil=>exact BD (fun h=>h) An
 |cons v r=>induction r using lc with
  |nil=>
   induction v using V.casesOn with
   |str x=>exact BD (fun h=>h) (G8 (by rw [Gm];cases AN x l <;> rfl))
   |_=>exact AX
  |cons _ _=>exact AX
theorem sf {l:List Str} {nm:String}:SM L k X (V.rn L k) (GR i l nm as) (GR (rn L k i) l nm (V.Af L k as)):=by
 induction as using lc with
 |nil=>exact AX
 |cons v r=>induction r using lc with
  |nil=>
   induction v using V.casesOn with
   |str x=>exact BD (fun h=>h) (AQ (f:=id) (GU (o:=.set (if l.contains x then l else l++[x]))) fun _=>An (a:=V.none))
   |_=>exact AX
  |cons _ _=>exact AX
theorem sL {l x:Nat}:SM L k X (V.rn L k) (Fd i l x) (Fd (rn L k i) (rn L k l) x):=by
 refine AQ (f:=O.rn L k) Dp fun o=>?_
 induction o using O.casesOn with
 |list xs=>
  show SM L k X (V.rn L k) (match xs[x]? with | some v=>_ | .none=>_) (match (V.Af L k xs)[x]? with | some v=>_ | .none=>_)
  rw [QG]
  induction xs[x]? using oc with
  |none=>exact AQ (f:=id) (GU (o:=.gone)) fun _=>QZ
  |some v=>exact AQ (f:=id) (GU (o:=.iter l (x+1))) fun _=>An
 |_=>exact AX
theorem rq {l x:Nat} {nm:String}:SM L k X (V.rn L k) (Hl i l x nm as) (Hl (rn L k i) (rn L k l) x nm (V.Af L k as)):=by
 induction as using lc with
 |nil=>exact BD (fun h=>h) sL
 |cons _ _=>exact AX
theorem Mz {nm:String}:SM L k X (V.rn L k) (method i nm as) (method (rn L k i) nm (V.Af L k as)):=by
 refine AQ (f:=O.rn L k) Dp fun o=>?_
 induction o using O.casesOn with
 |list l=>exact sD
 |dict l c=>exact rM
 |set l=>exact sf
 |iter l j=>exact rq
 |_=>exact AX
theorem r8 {s:Str}:SM L k X (V.rn L k) (K6 s v) (K6 s (v.rn L k)):=by
 refine AQ G7 fun l=>?_
 rw [M8]
 induction Mine.CU l using oc with
 |none=>exact AX
 |some l=>exact BD (fun h=>h) An
theorem tC {s:Str}:SM L k X (V.rn L k) (NH s v) (NH s (v.rn L k)):=by
 induction v using V.casesOn with
 |glob a=>
  intro st t R o h
  obtain ⟨q,e⟩:=Cu (show (if st.hd=0/\a=45/\(s = "a"\/s = "b") then some (Out.ok (V.str s) st) else none)=some o from h)
  rw [<-aa e]
  exact ⟨.ok (.str s) t,ak (by rw [R.hd];exact q),rfl,R⟩
 |_=>exact AX
theorem sV {s:Str} {a b:V}:SM L k X (V.rn L k) (Jt s a b) (Jt s (a.rn L k) (b.rn L k)):=by
 show SM L k X (V.rn L k) (Jt s a b) (BY (a.rn L k).B7 (b.rn L k).B7 _)
 rw [LU,LU]
 exact G6 fun _ _=>BD (fun h=>h) An
theorem s7 {s:Str} {nm:String}:SM L k X (V.rn L k) (E7 s nm as) (E7 s nm (V.Af L k as)):=by
 induction as using lc with
 |nil=>exact AX
 |cons v r=>induction r using lc with
  |nil=>exact CT Iff.rfl r8 (BD (fun h=>h) tC)
  |cons b r=>induction r using lc with
   |nil=>exact BD (fun h=>h) sV
   |cons _ _=>exact AX
theorem UW (o:O) (nm:String):CF (o.rn L k) nm=CF o nm:=by induction o using O.casesOn <;> rfl
theorem Vo {p:String × String} {nm:String}:SM L k X (V.rn L k) (GL p i nm as) (GL p (rn L k i) nm (V.Af L k as)):=by
 refine AQ (f:=O.rn L k) Dp fun o=>?_
 rw [UW]
 exact BD (fun h=>h) Mz
theorem QY {o:Option V}:SM L k X (V.rn L k) (BR o) (BR (o.map (V.rn L k))):=H7 fun a e=>by rw [e];rfl
theorem Vj {a:Str}:SM L k X (V.rn L k) (FP o a) (FP (o.rn L k) a):=by
 induction o using V.casesOn with
 |ref i=>
  refine AQ (f:=O.rn L k) Dp fun o=>?_
  induction o using O.casesOn with
  |inst l=>
   show SM L k X (V.rn L k) (if EY.contains a then BR (AN a l) else AG) (if EY.contains a then BR (AN a (V.BI L k l)) else AG)
   exact BD (fun h=>h) QX
  |node n p s=>
   show SM L k X (V.rn L k) (if a == "node" then BR n else if a == "npredecessors" then BR p else if a == "successors" then BR s else AG) (if a == "node" then BR (n.map (V.rn L k)) else if a == "npredecessors" then BR (p.map (V.rn L k)) else if a == "successors" then BR (s.map (V.rn L k)) else AG)
   exact CT Iff.rfl QY (CT Iff.rfl QY (CT Iff.rfl QY AX))
  |list l=>
   show SM L k X (V.rn L k) (if a == "append" then AF (.bm "append" i) else AG) (if a == "append" then AF (.bm "append" (rn L k i)) else AG)
   exact BD (fun h=>h) An
  |iter l j=>
   show SM L k X (V.rn L k) (if a == "__next__" then AF (.bm "__next__" i) else AG) (if a == "__next__" then AF (.bm "__next__" (rn L k i)) else AG)
   exact BD (fun h=>h) An
  |_=>exact AX
 |_=>exact AX
theorem Vy {a:Str}:SM L k X id (H6 o a v) (H6 (o.rn L k) a (v.rn L k)):=by
 induction o using V.casesOn with
 |ref i=>
  refine AQ (f:=O.rn L k) Dp fun o=>?_
  induction o using O.casesOn with
  |inst l=>
   show SM L k X id (if EY.contains a/\(Ao a v l).length<=100 then BJ i (.inst (Ao a v l)) else AG) (if EY.contains a/\(Ao a (v.rn L k) (V.BI L k l)).length<=100 then BJ (rn L k i) (.inst (Ao a (v.rn L k) (V.BI L k l))) else AG)
   rw [<-VU,QF]
   exact BD (fun h=>h) (GU (o:=.inst (Ao a v l)))
  |node n p s=>
   show SM L k X id (if a == "node" then BJ i (.node (some v) p s) else if a == "npredecessors" then BJ i (.node n (some v) s) else if a == "successors" then BJ i (.node n p (some v)) else AG)
    (if a == "node" then BJ (rn L k i) (O.rn L k (.node (some v) p s)) else if a == "npredecessors" then BJ (rn L k i) (O.rn L k (.node n (some v) s)) else if a == "successors" then BJ (rn L k i) (O.rn L k (.node n p (some v))) else AG)
   exact CT Iff.rfl GU (CT Iff.rfl GU (CT Iff.rfl GU AX))
  |_=>exact AX
 |_=>exact AX
theorem sY {i:V}:SM L k X id (I0 o i v) (I0 (o.rn L k) (i.rn L k) (v.rn L k)):=by
 induction o using V.casesOn with
 |ref r=>
  induction i using V.casesOn with
  |str x=>
   refine AQ (f:=O.rn L k) Dp fun o=>?_
   induction o using O.casesOn with
   |dict l c=>
    show SM L k X id (if (Ao x v l).length<=1000 then BJ r (.dict (Ao x v l) c) else AG) (if (Ao x (v.rn L k) (V.BI L k l)).length<=1000 then BJ (rn L k r) (.dict (Ao x (v.rn L k) (V.BI L k l)) c) else AG)
    rw [<-VU,QF]
    exact BD (fun h=>h) (GU (o:=.dict (Ao x v l) c))
   |_=>exact AX
  |_=>exact AX
 |_=>exact AX
theorem Vg {i:V}:SM L k X id (F6 o i) (F6 (o.rn L k) (i.rn L k)):=by
 induction o using V.casesOn with
 |ref r=>
  induction i using V.casesOn with
  |str x=>
   refine AQ (f:=O.rn L k) Dp fun o=>?_
   induction o using O.casesOn with
   |dict l c=>
    show SM L k X id (if (AN x l).isSome then BJ r (.dict (CX x l) false) else AG) (if (AN x (V.BI L k l)).isSome then BJ (rn L k r) (.dict (CX x (V.BI L k l)) false) else AG)
    rw [<-ZW,Gm]
    exact BD (fun h=>by rw [Option.isSome_map];exact h) (GU (o:=.dict (CX x l) false))
   |_=>exact AX
  |_=>exact AX
 |_=>exact AX
def T.rn (L k:Nat):T->T
 | .call f as=>.call f (V.Af L k as)
 |t=>t
def Res.rn (L k:Nat):Res->Res
 | .v x=>.v (x.rn L k)
 | .b x=>.b x
 | .f (.ret x)=>.f (.ret (x.rn L k))
 | .f x=>.f x
def Fl.rn (L k:Nat):Fl->Fl
 | .ret v=>.ret (v.rn L k)
 |x=>x
def IM (L k:Nat) (X:List O) (ih Ac:Ih):Prop:=∀t,SM L k X (Res.rn L k) (ih t) (Ac (t.rn L k))
theorem BU (h:IM L k X ih Ac) {t:T}:SM L k X (V.rn L k) (ih.v t) (Ac.v (t.rn L k)):=by
 refine AQ (h t) fun r=>?_
 induction r using Res.casesOn with
 |v v=>exact An
 |b b=>exact AX
 |f f=>exact AX
theorem I2 (h:IM L k X ih Ac) {t:T}:SM L k X id (ih.b t) (Ac.b (t.rn L k)):=by
 refine AQ (h t) fun r=>?_
 induction r using Res.casesOn with
 |v v=>exact AX
 |b b=>exact An
 |f f=>exact AX
theorem Ek (h:IM L k X ih Ac) {t:T}:SM L k X (Fl.rn L k) (ih.f t) (Ac.f (t.rn L k)):=by
 refine AQ (h t) fun r=>?_
 induction r using Res.casesOn with
 |v v=>exact AX
 |b b=>exact AX
 |f f=>induction f using Fl.casesOn <;> exact An
theorem F9 {r:List Expr} (h:Bk e=false):BG ih (e::r)=AD (ih.v (.ev e)) fun v=>AD (BG ih r) fun t=>AF (v::t):=by
 induction e using Expr.casesOn <;> first | rfl | exact Bool.noConfusion (h:true=false)
theorem GS (h:IM L k X ih Ac) (es:List Expr):SM L k X (V.Af L k) (BG ih es) (BG Ac es):=by
 induction es with
 |nil=>exact An
 |cons e r hr=>
  induction hs:Bk e using bc with
  |true=>
   obtain ⟨e,p,rfl⟩:=LS hs
   exact AQ (BU h) fun v=>AQ G7 fun l=>AQ hr fun t=>G8 (Mm l t).symm
  |false=>
   rw [F9 hs,F9 hs]
   exact AQ (BU h) fun v=>AQ hr fun t=>An
theorem tL {x y:Str} {a b:V}:SM L k X id (fun s=>if s.hd=0 then (AD (store x a) fun _=>store y b) s else .none) (fun s=>if s.hd=0 then (AD (store x (a.rn L k)) fun _=>store y (b.rn L k)) s else .none):=Vk (AQ (f:=id) H8 fun _=>H8)
theorem Ux (v:V):Hw (v.rn L k)=(Hw v).map fun q=>(q.1.rn L k,q.2.rn L k):=by
 unfold Hw
 rw [wY]
 induction v.I8 using oc with
 |none=>rfl
 |some l=>
  induction l using lc with
  |nil=>rfl
  |cons a r=>induction r using lc with
   |nil=>rfl
   |cons b r=>induction r using lc <;> rfl
theorem rC:SM L k X id (assign2 v es) (assign2 (v.rn L k) es):=by
 unfold assign2
 rw [Ux]
 induction names2 es using oc with
 |none=>exact AX
 |some x=>induction Hw v using oc with
  |none=>exact AX
  |some a=>exact tL
theorem Mw (h:IM L k X ih Ac) {t:Expr}:SM L k X id (Ci ih v t) (Ci Ac (v.rn L k) t):=by
 induction t using Expr.casesOn with
 |Name x p=>exact H8
 |Attribute o a p=>exact AQ (BU h) fun ov=>Vy
 |Subscript o i p=>exact AQ (BU h) fun ov=>AQ (BU h) fun iv=>sY
 |Tuple es m p=>exact rC
 |_=>exact AX
theorem Va (h:IM L k X ih Ac):∀ts:List Expr,SM L k X id (HO ih v ts) (HO Ac (v.rn L k) ts):=by
 intro Qp
 induction Qp with
 |nil=>
  exact An
 |cons t r AU=>
  exact AQ (f:=id) (Mw h) fun _=>AU
noncomputable def II (L k:Nat) (p:Bool × List V):Bool × List V:=(p.1,V.Af L k p.2)
theorem sX:SM L k X (II L k) (QS v) (QS (v.rn L k)):=by
 induction v using V.casesOn with
 |rng n=>exact G8 (by unfold II;rw [Dn,List.map_map];rfl)
 |vals i=>
  refine AQ (f:=O.rn L k) Dp fun o=>?_
  induction o using O.casesOn with
  |dict l c=>
   induction c using bc with
   |true=>exact G8 (by unfold II;rw [Dn,Iw,List.map_map,List.map_map];rfl)
   |false=>exact AX
  |_=>exact AX
 |ref i=>
  refine AQ (f:=O.rn L k) Dp fun o=>?_
  induction o using O.casesOn with
  |list l=>exact An
  |dict l c=>
   induction c using bc with
   |true=>exact G8 (by unfold II;rw [Dn,Iw,List.map_map,List.map_map];rfl)
   |false=>exact AX
  |_=>exact AX
 |lst l=>exact An
 |tup l=>exact An
 |_=>exact AX
theorem M0:SM L k X (II L k) (Bg v) (Bg (v.rn L k)):=Vk sX
theorem M4:SM L k X (Option.map (V.rn L k)) (Bs v kd n j) (Bs (v.rn L k) kd n j):=by
 refine AQ M0 fun p=>?_
 show SM L k X _ (if p.1=kd/\p.2.length=n then AF p.2[j]? else AG) (if p.1=kd/\(V.Af L k p.2).length=n then AF (V.Af L k p.2)[j]? else AG)
 rw [Dc,QG]
 exact BD (fun h=>h) An
theorem rT (h:IM L k X ih Ac):∀r:Nat,SM L k X (Fl.rn L k) (Cm ih target body orelse Ai kd n r) (Cm Ac target body orelse (Ai.rn L k) kd n r):=by
 intro r_
 induction r_ with
 |zero=>
  refine AQ M4 fun o=>?_
  induction o using oc with
  |none=>exact Ek h
  |some v=>exact AX
 |succ r AU=>
  refine AQ M4 fun o=>?_
  induction o using oc with
  |none=>exact AX
  |some v=>
   refine AQ (f:=id) (Mw h) fun _=>AQ (Ek h) fun fl=>?_
   induction fl using Fl.casesOn with
   |next=>exact AU
   |cont=>exact AU
   |brk=>exact An
   |ret v=>exact An
theorem QV (h:IM L k X ih Ac):∀es:List Expr,SM L k X id (DE ih es) (DE Ac es):=by
 intro Gj
 induction Gj with
 |nil=>
  exact An
 |cons e r AU=>
  refine AQ (f:=id) (I2 h) fun b=>?_
  induction b using bc with
  |true=>exact AU
  |false=>exact An
theorem rB (h:IM L k X ih Ac):∀es:List Expr,SM L k X id (Gg ih es) (Gg Ac es):=by
 intro Gj
 induction Gj with
 |nil=>
  exact An
 |cons e r AU=>
  refine AQ (f:=id) (I2 h) fun b=>?_
  induction b using bc with
  |true=>exact An
  |false=>exact AU
theorem rK (h:IM L k X ih Ac):∀r:Nat,SM L k X (V.Af L k) (C4 ih Am target Ak Ai kd n r) (C4 Ac Am target Ak (Ai.rn L k) kd n r):=by
 intro r_
 induction r_ with
 |zero=>
  refine AQ M4 fun o=>?_
  induction o using oc with
  |none=>exact An
  |some v=>exact AX
 |succ r AU=>
  refine AQ M4 fun o=>?_
  induction o using oc with
  |none=>exact AX
  |some v=>
   refine AQ (f:=id) (Mw h) fun _=>AQ (f:=id) (QV h Ak) fun b=>?_
   induction b using bc with
   |true=>exact AQ (BU h) fun x=>AQ (AU) fun l=>An
   |false=>exact AU
theorem Sy {sc:Sc} {x:Str}:∀l:Loc,AN x (DA sc l)=if (sc.lookup x==some .local || sc.lookup x==some .cell)=true then none else AN x l
 | []=>by simp [DA,AN]
 | (y,v)::r=>by
  have ih:=Sy (sc:=sc) (x:=x) r
  unfold DA at ih ⊢
  simp only [List.filter_cons]
  by_cases hy:(y==x)=true
  .have:=eq_of_beq hy
   subst this
   by_cases hq:(sc.lookup y==some .local || sc.lookup y==some .cell)=true
   .rw [ak hq] at ih ⊢
    rw [aj (by simp [hq])]
    exact ih
   .rw [aj hq]
    rw [ak (by simpa using hq)]
    simp [AN]
  .split
   .simp only [AN,aj hy];exact ih
   .simp only [AN,aj hy];exact ih
theorem SR.env' (R:SR L k X s t) {E:Loc} {sc:Sc} (h:∀x v,AN x E=some v->AN x E'=some (v.rn L k)):SR L k X {s with AA:=E,sc:=sc} {t with AA:=E',sc:=sc}:=
 ⟨rfl,R.hd,R.lo,R.len,R.hx,R.hp,h⟩
theorem SR.hd' (R:SR L k X s t) (n:Nat):SR L k X {s with hd:=n} {t with hd:=n}:=⟨R.sc,rfl,R.lo,R.len,R.hx,R.hp,R.AA⟩
theorem rJ (h:IM L k X ih Ac) {Am target:Expr} {Ak:List Expr} {x:V} {kd:Bool} {n:Nat} {sc:Sc}:SM L k X (V.Af L k) (F5 ih Am target Ak x kd n sc) (F5 Ac Am target Ak (x.rn L k) kd n sc):=fun s t R o e=>by
 unfold F5 at e ⊢
 have R1:SR L k X {s with AA:=DA sc s.AA,sc:=sc} {t with AA:=DA sc t.AA,sc:=sc}:=R.env' fun y v q=>by
  rw [Sy] at q ⊢
  split at q
  .exact nn q
  .rw [aj (by assumption)];exact R.AA y v q
 induction q:(C4 ih Am target Ak x kd n n {s with AA:=DA sc s.AA,sc:=sc}) using oc with
 |none=>rw [q] at e;exact nn e
 |some r=>
  rw [q] at e
  obtain ⟨r',e',z⟩:=rK h n _ _ R1 r q
  rw [e']
  induction r using uc with
  |ex c s'=>exact nn e
  |ok a s'=>
   induction r' using uc with
   |ex c t'=>exact z.elim
   |ok b t'=>
    obtain ⟨rfl,R'⟩:=z
    obtain rfl:=aa e
    refine ⟨_,rfl,rfl,?_⟩
    have:=R'.env' (sc:=s.sc) (E:=s.AA) (E':=t.AA) R.AA
    rw [<-R.sc] at this
    rw [<-R.sc]
    exact this
set_option tactic.hygienic true in
theorem Vf (h:IM L k X ih Ac) {sc:Scope}:SM L k X (V.Af L k) (comp ih Am target iter Ak asy sc) (comp Ac Am target iter Ak asy sc):=fun s t R o e=>by
 unfold comp at e ⊢
 rw [R.sc]
 split at e
 .rename_i g
  rw [ak g]
  have:SM L k X (V.Af L k) (Ny ih Am target iter Ak sc.names) (Ny Ac Am target iter Ak sc.names):=AQ (BU h) fun x=>AQ M0 fun p=>by
   show SM L k X _ (F5 ih Am target Ak x p.1 p.2.length sc.names) (F5 Ac Am target Ak (x.rn L k) p.1 (V.Af L k p.2).length sc.names)
   rw [Dc]
   exact rJ h
  exact this s t R o e
 .exact nn e
theorem VZ (h:IM L k X ih Ac) {op:BoolOp}:∀es:List Expr,SM L k X (V.rn L k) (HL ih op es) (HL Ac op es)
 | []=>AX
 | [e]=>BU h
 |e::A3::r=>by
  refine AQ (BU h) fun v=>AQ (f:=id) V0 fun b=>?_
  cases op <;> cases b <;> first | exact An | exact VZ h (A3::r)
theorem Vh (h:IM L k X ih Ac):∀(ks:List (Option Expr)) (es:List Expr),SM L k X (V.BI L k) (dictOf ih ks es) (dictOf Ac ks es)
 | [],[]=>An
 | [],_::_=>AX
 |none::_,_=>AX
 |some _::_,[]=>AX
 |some q::ks,e::es=>by
  refine AQ (BU h) fun x=>?_
  induction x using V.casesOn with
  |str s=>exact AQ (BU h) fun v=>AQ (Vh h ks es) fun l=>An
  |_=>exact AX
theorem Vu (h:IM L k X ih Ac):∀e:Option Expr,SM L k X id (D8 ih e) (D8 Ac e)
 |none=>An
 |some e=>by
  refine AQ (BU h) fun x=>?_
  induction x using V.casesOn with
  |int i=>exact An
  |_=>exact AX
noncomputable def Tr:Expr->Nat
 | .Constant (.str _) _ _=>0
 | .FormattedValue _ _ none _=>1
 |_=>2
theorem oF (h:Tr e=2) (AM:Str) (r:List Expr):parts ih AM (e::r)=AG:=by
 induction e using Expr.casesOn with
 |Constant c a b=>cases c <;> first | rfl | (cases h;done)
 |FormattedValue a b c d=>cases c <;> first | rfl | (cases h;done)
 |_=>rfl
theorem sN (h:IM L k X ih Ac):∀(es:List Expr) (AM:Str),SM L k X id (parts ih AM es) (parts Ac AM es):=by
 intro Gj
 induction Gj with
 |nil=>
  intro AM
  exact An
 |cons e r AU=>
  intro AM
  by_cases hk:Tr e=2
  .rw [oF hk];exact AX
  .induction e using Expr.casesOn with
   |Constant c a b=>
    cases c <;> first | (exact (hk rfl).elim) | skip
    exact BD (fun h=>h) (AU _)
   |FormattedValue a b c d=>
    induction c using oc <;> first | (exact (hk rfl).elim) | skip
    refine BD (fun h=>h) (AQ (BU h) fun v=>?_)
    induction v using V.casesOn with
    |str s=>exact BD (fun h=>h) (AU _)
    |_=>exact AX
   |_=>exact (hk rfl).elim
theorem M5 (h:IM L k X ih Ac):SM L k X (V.rn L k) (ih.v (.call f as)) (Ac.v (.call f (V.Af L k as))):=BU h (t:=.call f as)
theorem sJ (h:IM L k X ih Ac):SM L k X (V.rn L k) (LA ih) (LA Ac):=by
 refine AQ (I3 (o:=.inst [])) fun x=>AQ (f:=V.rn L k) (M5 h (as:=[x,.none])) fun r=>?_
 induction r using V.casesOn <;> first | exact AX | exact An
theorem sI (h:IM L k X ih Ac):SM L k X (V.rn L k) (newNode ih as) (newNode Ac (V.Af L k as)):=by
 refine AQ (I3 (o:=.node .none .none .none)) fun x=>AQ (f:=V.rn L k) (M5 h (as:=x::as)) fun r=>?_
 induction r using V.casesOn <;> first | exact AX | exact An
theorem rU (h:IM L k X ih Ac) {a:Nat}:SM L k X (V.rn L k) (Gn ih a as) (Gn Ac a (V.Af L k as)):=
 CT Iff.rfl (BD (fun h=>by induction as using lc <;> first | rfl | exact h) (sJ h)) (CT Iff.rfl (sI h) (BD (fun h=>h) (M5 h)))
theorem rI (h:IM L k X ih Ac) {f:V}:SM L k X (V.rn L k) (FG ih f as) (FG Ac (f.rn L k) (V.Af L k as)):=by
 induction f using V.casesOn with
 |bi id=>exact Ve
 |ty n=>exact V1
 |glob a=>exact rU h
 |bm nm i=>exact Mz
 |_=>exact AX
theorem tB {x y:Str}:SM L k X id (HA x y v) (HA x y (v.rn L k)):=by
 unfold HA
 rw [Ux]
 induction Hw v using oc with
 |none=>exact AX
 |some q=>exact AQ (f:=id) H8 fun _=>H8
theorem rD (h:IM L k X ih Ac):SM L k X (Res.rn L k) (Gh ih ts e) (Gh Ac ts e):=by
 unfold Gh
 refine CT Iff.rfl ?_ ?_
 .have g:SM L k X (V.rn L k) (ih.v (if Dl e then .evm e else .ev e)) (Ac.v (if Dl e then .evm e else .ev e)):=by cases Dl e <;> exact BU h
  exact AQ g fun v=>AQ (f:=id) (Va h ts) fun _=>An
 .induction J5 ts e using oc with
  |none=>exact AX
  |some q=>
   intro s t R o e'
   obtain ⟨g,e'⟩:=Cu e'
   have g':t.hd=0/\t.sc.lookup q.1=some .local/\t.sc.lookup q.2=some .local:=by rw [R.hd,R.sc];exact g
   have z:SM L k X (Res.rn L k) (AD (ih.v (.ev e)) fun v=>AD (HA q.1 q.2 v) fun _=>AF (.f .next)) (AD (Ac.v (.ev e)) fun v=>AD (HA q.1 q.2 v) fun _=>AF (.f .next)):=AQ (BU h) fun v=>AQ (f:=id) tB fun _=>An
   obtain ⟨o',a,b⟩:=z s t R o e'
   exact ⟨o',(ak g').trans a,b⟩
theorem pF:SM L k X (V.rn L k) (Jr v) (Jr (v.rn L k)):=by
 induction v using V.casesOn with
 |str s=>exact BD (fun h=>h) An
 |_=>exact AX
theorem s8 (h:IM L k X ih Ac) {nm:Str} {as:List Expr}:SM L k X (V.rn L k) (J1 ih nm as) (J1 Ac nm as):=by
 refine G6 fun q _=>G6 fun g _=>?_
 intro s t R o e
 obtain ⟨c,e⟩:=Cu e
 obtain ⟨o',a,b⟩:=AQ (BU h) (fun v=>pF) s t R o e
 exact ⟨o',(ak (by rw [R.sc];exact c)).trans a,b⟩
theorem rX (h:IM L k X ih Ac) {nm:Str} {as:List Expr}:SM L k X (V.rn L k) (EX ih i l nm as) (EX Ac (rn L k i) (V.BI L k l) nm as):=by
 unfold EX
 rw [Gm]
 induction AN nm l using oc with
 |some v=>exact AX
 |none=>
  induction GK nm methods using oc with
  |none=>exact AX
  |some f=>exact AQ (GS h as) fun r=>M5 h (as:=.ref i::r)
theorem sM (h:IM L k X ih Ac) {o:O} {nm:Str} {as:List Expr}:SM L k X (V.rn L k) (Fe ih i o nm as) (Fe Ac (rn L k i) (o.rn L k) nm as):=by
 unfold Fe
 rw [UW]
 induction CF o (Cc nm) using oc with
 |none=>exact AX
 |some p=>exact BD (fun h=>h) (AQ (GS h as) fun l=>Vo)
theorem sU (h:IM L k X ih Ac) {nm:Str} {as:List Expr}:SM L k X (V.rn L k) (QB ih i nm as) (QB Ac (rn L k i) nm as):=by
 refine AQ (f:=O.rn L k) Dp fun ob=>?_
 by_cases hi:∃l,ob = .inst l
 .obtain ⟨l,rfl⟩:=hi
  exact rX h
 .have:=sM h (i:=i) (o:=ob) (nm:=nm) (as:=as)
  induction ob using O.casesOn with
  |inst l=>exact absurd ⟨l,rfl⟩ hi
  |_=>exact this
theorem rH (h:IM L k X ih Ac) {o:Expr} {nm:Str} {as:List Expr}:SM L k X (V.rn L k) (Gi ih o nm as) (Gi Ac o nm as):=by
 refine AQ (BU h) fun ov=>?_
 induction ov using V.casesOn with
 |str s=>exact BD (fun h=>h) (AQ (GS h as) fun l=>s7)
 |glob a=>exact BD (fun h=>h) (s8 h)
 |ref i=>exact sU h
 |_=>exact AX
theorem rG (h:IM L k X ih Ac) {f:Expr} {as:List Expr}:SM L k X (V.rn L k) (Dy ih f as pos) (Dy Ac f as pos):=by
 have gen:SM L k X (V.rn L k) (AD (ih.v (.ev f)) fun fv=>AD (BG ih as) fun l=>FG ih fv l) (AD (Ac.v (.ev f)) fun fv=>AD (BG Ac as) fun l=>FG Ac fv l):=AQ (BU h) fun fv=>AQ (GS h as) fun l=>rI h
 induction f using Expr.casesOn with
 |Attribute o nm apos=>exact BD (fun h=>h) (rH h)
 |_=>exact gen
theorem s9 (h:IM L k X ih Ac) {o i:Expr}:SM L k X (V.rn L k) (G9 ih o i) (G9 Ac o i):=by
 unfold G9
 induction slice? i using oc with
 |none=>exact AQ (BU h) fun ov=>AQ (BU h) fun iv=>rZ
 |some q=>
  obtain ⟨lo,up,st⟩:=q
  induction st using oc with
  |none=>exact AQ (BU h) fun ov=>AQ (f:=id) (Vu h lo) fun l=>AQ (f:=id) (Vu h up) fun u=>sq
  |some e=>exact AX
theorem YF:∀(xs:List Str) (vs:List V),binds xs (V.Af L k vs)=(binds xs vs).map fun p=>(V.BI L k p.1,V.Af L k p.2):=by
 intro xs
 induction xs with
 |nil=>exact fun _=>rfl
 |cons x xs ih=>
  intro vs
  induction vs using lc with
  |nil=>rfl
  |cons v vs=>show (binds xs (V.Af L k vs)).map _=((binds xs vs).map _).map _;rw [ih,Option.map_map,Option.map_map];rfl
set_option tactic.hygienic true in
theorem X7 {f:Fn} (h:Bh f vs=some l):Bh f (V.Af L k vs)=some (V.BI L k l):=by
 unfold Bh at h ⊢
 rw [Dc]
 split at h
 .rename_i hl
  rw [ak hl,YF]
  induction q:binds f.params vs using oc with
  |none=>rw [q] at h;exact nn h
  |some p=>
   rw [q] at h
   obtain ⟨l',rest⟩:=p
   induction hr:f.rest using oc with
   |some x=>
    rw [hr] at h
    obtain rfl:=aa (h:some (l'++[(x,V.tup rest)])=some l)
    show some (V.BI L k l'++[(x,V.tup (V.Af L k rest))])=_
    rw [Iw,Iw,List.map_append]
    rfl
   |none=>
    rw [hr] at h
    have h:(if rest.isEmpty then some l' else none)=some l:=h
    show (if (V.Af L k rest).isEmpty then some (V.BI L k l') else none)=_
    have e:(V.Af L k rest).isEmpty=rest.isEmpty:=by induction rest using lc <;> rfl
    rw [e]
    split at h
    .obtain rfl:=aa h;rw [ak (by assumption)]
    .exact nn h
 .exact nn h
theorem lN {f f':V->Option V} (h:∀x y,f x=some y->f' (x.rn L k)=some (y.rn L k)):∀{l r:List V},l.mapM f=some r->(V.Af L k l).mapM f'=some (V.Af L k r):=by
 intro l_
 induction l_ with
 |nil=>
  intro r e
  obtain rfl:=aa e;rfl
 |cons x l AU=>
  intro r e
  rw [List.mapM_cons] at e
  induction q:f x using oc with
  |none=>rw [q] at e;exact nn e
  |some y=>
   rw [q] at e
   induction q':l.mapM f using oc with
   |none=>rw [q'] at e;exact nn e
   |some r'=>
    rw [q'] at e
    obtain rfl:=aa e
    show (V.rn L k x::V.Af L k l).mapM f'=_
    rw [List.mapM_cons,h _ _ q,AU q']
    rfl
theorem bZ (R:SR L k X s t) (R':SR L k X s' t') (d:Nat):∀{v r:V},fz s.hp.length s'.hp d v=some r->fz t.hp.length t'.hp d (v.rn L k)=some (r.rn L k):=by
 induction d with
 |zero=>exact fun h=>nn h
 |succ d ih=>
  intro v r h
  have et:t.hp.length=rn L k s.hp.length:=by rw [R.hp,MO R.len R.hx]
  have lst:∀(l:List V) (g:List V->V),(∀l,(g l).rn L k=g (V.Af L k l))->∀r,(l.mapM (fz s.hp.length s'.hp d)).map g=some r->((V.Af L k l).mapM (fz t.hp.length t'.hp d)).map g=some (r.rn L k):=fun l g hg r e=>by
   induction q:l.mapM (fz s.hp.length s'.hp d) using oc with
   |none=>rw [q] at e;exact nn e
   |some l'=>
    rw [q] at e
    obtain rfl:=aa e
    rw [lN (fun x y e=>ih e) q,hg]
    rfl
  induction v using V.casesOn with
  |ref i=>
   have h:(if i<s.hp.length then some (V.ref i) else match s'.hp[i]? with
    |some (.list l)=>(l.mapM (fz s.hp.length s'.hp d)).map .lst
    |_=>.none)=some r:=h
   show (if rn L k i<t.hp.length then some (V.ref (rn L k i)) else match t'.hp[rn L k i]? with
    |some (.list l)=>(l.mapM (fz t.hp.length t'.hp d)).map .lst
    |_=>.none)=some (r.rn L k)
   rw [et]
   by_cases hi:i<s.hp.length
   .rw [ak hi] at h
    obtain rfl:=aa h
    rw [ak (QC.mpr hi)]
    rfl
   .rw [aj hi] at h
    rw [aj (fun q=>hi (QC.mp q)),R'.hp,PM R'.len R'.hx]
    induction q:s'.hp[i]? using oc with
    |none=>rw [q] at h;exact nn h
    |some ob=>
     rw [q] at h
     induction ob using O.casesOn with
     |list l=>have z:=lst l .lst (fun _=>rfl) r h;rw [et,R'.hp] at z;exact z
     |_=>exact nn h
  |lst l=>exact lst l .lst (fun _=>rfl) r h
  |tup l=>exact lst l .tup (fun _=>rfl) r h
  |dct _=>exact nn h
  |rng _=>exact nn h
  |vals _=>exact nn h
  |bm _ _=>exact nn h
  |none=>rw [<-aa h];rfl
  |bool _=>rw [<-aa h];rfl
  |int _=>rw [<-aa h];rfl
  |str _=>rw [<-aa h];rfl
  |glob _=>rw [<-aa h];rfl
  |bi _=>rw [<-aa h];rfl
  |ty _=>rw [<-aa h];rfl
theorem LP {m m':M Fl} {f f':Fl->M Fl} {g g':String->M Fl} (hm:SM L k X (Fl.rn L k) m m') (hf:∀r,SM L k X (Fl.rn L k) (f r) (f' (r.rn L k))) (hg:∀c,SM L k X (Fl.rn L k) (g c) (g' c)):SM L k X (Fl.rn L k) (DJ m f g) (DJ m' f' g'):=fun s t R o e=>by
 unfold DJ at e ⊢
 induction q:m s using oc with
 |none=>rw [q] at e;exact nn e
 |some r=>
  rw [q] at e
  obtain ⟨r',e',z⟩:=hm _ _ R r q
  rw [e']
  induction r using uc with
  |ok a s'=>
   induction r' using uc with
   |ex c t'=>exact z.elim
   |ok b t'=>exact hf a _ _ z.2 o e |> fun x=>z.1 ▸ x
  |ex c s'=>
   induction r' using uc with
   |ok b t'=>exact z.elim
   |ex d t'=>exact hg c _ _ z.2 o e |> fun x=>z.1 ▸ x
theorem Vb {m:M Fl} (n:Nat) (hm:SM L k X (Fl.rn L k) m m'):SM L k X (Fl.rn L k) (IK n m) (IK n m'):=fun s t R o e=>hm _ _ (R.hd' n) o e
theorem Vt {r:Fl} (n:Nat):SM L k X (Fl.rn L k) (Jk n r) (Jk n (r.rn L k)):=fun s t R o e=>by obtain rfl:=aa e;exact ⟨_,rfl,rfl,R.hd' n⟩
theorem Vi {c:String} (n:Nat):SM L k X (Fl.rn L k) (JL n c) (JL n c):=fun s t R o e=>by obtain rfl:=aa e;exact ⟨_,rfl,rfl,R.hd' n⟩
theorem rQ {c:String}:SM L k X (Fl.rn L k) (Ly c) (Ly c):=fun s t R o e=>by obtain rfl:=aa e;exact ⟨_,rfl,rfl,R⟩
theorem Vz {r:Fl} {m:M Fl} (hm:SM L k X (Fl.rn L k) m m'):SM L k X (Fl.rn L k) (IB r m) (IB (r.rn L k) m'):=by
 induction r using Fl.casesOn with
 |next=>exact hm
 |_=>exact An
set_option tactic.hygienic true in
theorem rW (h:IM L k X ih Ac) {x:Str} (n:Nat) (c:String):SM L k X (Fl.rn L k) (handled ih x hb n c) (handled Ac x hb n c):=fun s t R o e=>by
 unfold handled at e ⊢
 rw [R.sc]
 split at e
 .rename_i g
  rw [ak g]
  exact LP (Vb 2 (Ek h)) (fun r=>Vt n) (fun c=>AX) _ _ R o e
 .exact nn e
theorem tF (h:IM L k X ih Ac) {x:Str}:SM L k X (Fl.rn L k) (IC ih body x hb orelse) (IC Ac body x hb orelse):=fun s t R o e=>by
 unfold IC at e ⊢
 rw [R.hd]
 exact LP (Ek h) (fun r=>Vz (Ek h)) (rW h _) _ _ R o e
theorem tG (h:IM L k X ih Ac) {body fin:List Stmt}:SM L k X (Fl.rn L k) (LW ih body fin) (LW Ac body fin):=fun s t R o e=>by
 unfold LW at e ⊢
 rw [R.hd]
 refine LP (Ek h) (fun r=>LP (Ek h) (fun g=>Vz An) fun c=>rQ) (fun c=>?_) _ _ R o e
 unfold Kh
 refine BD (fun h=>h) (LP (Vb 1 (Ek h)) (fun g=>?_) fun c=>Vi 0)
 unfold L5
 induction g using Fl.casesOn with
 |next=>exact Vi 0
 |_=>exact Vt 0
theorem tE (h:IM L k X ih Ac) {fin:List Stmt}:SM L k X (Fl.rn L k) (ID ih body hs orelse fin) (ID Ac body hs orelse fin):=by
 induction fin using lc with
 |nil=>
  unfold ID
  induction Kq hs using oc with
  |none=>exact AX
  |some q=>exact BD (fun h=>h) (tF h)
 |cons f fin=>exact BD (fun h=>h) (tG h)
theorem E6 {m m':M V} (x:SM L k X (V.rn L k) m m'):SM L k X (Res.rn L k) (AD m fun v=>AF (.v v)) (AD m' fun v=>AF (.v v)):=AQ x fun v=>An
theorem Qa {m m':M Bool} (x:SM L k X id m m'):SM L k X (Res.rn L k) (AD m fun v=>AF (.b v)) (AD m' fun v=>AF (.b v)):=AQ (f:=id) x fun v=>An
theorem Sk (f:Fl):(Res.f f).rn L k = .f (f.rn L k):=by induction f using Fl.casesOn <;> rfl
theorem Qc {m:M Fl} (x:SM L k X (Fl.rn L k) m m'):SM L k X (Res.rn L k) (AD m fun v=>AF (.f v)) (AD m' fun v=>AF (.f v)):=AQ x fun v=>G8 (Sk v).symm
theorem Vl (h:IM L k X ih Ac) {t a b:T}:SM L k X (Res.rn L k) (AD (ih.b t) fun c=>if c then ih a else ih b) (AD (Ac.b (t.rn L k)) fun c=>if c then Ac (a.rn L k) else Ac (b.rn L k)):=by
 refine AQ (f:=id) (I2 h) fun c=>?_
 induction c using bc with
 |true=>exact h a
 |false=>exact h b
theorem step_call:step ih (.call f as) st=(match CZ f fns with
  | .none=>.none
  |some fn=>match Bh fn as with
   | .none=>.none
   |some AA=>match ih (.exs fn.body) {st with AA:=AA,sc:=fn.sc,lo:=if Bf f then st.hp.length else st.lo} with
    | .none=>.none
    |some (.ex c s')=>if Bf f then .none else some (.ex c {s' with AA:=st.AA,sc:=st.sc})
    |some (.ok r s')=>match r with
     | .f fl=>if Bf f then (match fz st.hp.length s'.hp 4 (match fl with | .ret v=>v | _=>.none) with
       |some v'=>some (.ok (.v v') st)
       | .none=>.none)
      else some (.ok (.v (match fl with | .ret v=>v | _=>.none)) {s' with AA:=st.AA,sc:=st.sc})
     |_=>.none):=rfl
theorem rF (h:IM L k X ih Ac) {f:Nat} {as:List V}:SM L k X (Res.rn L k) (step ih (.call f as)) (step Ac (.call f (V.Af L k as))):=fun s t R o e=>by
 rw [step_call] at e ⊢
 induction q1:CZ f fns using oc with
 |none=>rw [q1] at e;exact nn e
 |some fn=>
  rw [q1] at e
  dsimp only at e ⊢
  induction q2:Bh fn as using oc with
  |none=>rw [q2] at e;exact nn e
  |some l=>
   rw [q2] at e
   rw [X7 q2]
   dsimp only at e ⊢
   have et:t.hp.length=rn L k s.hp.length:=by rw [R.hp,MO R.len R.hx]
   have R1:SR L k X {s with AA:=l,sc:=fn.sc,lo:=if Bf f then s.hp.length else s.lo} {t with AA:=V.BI L k l,sc:=fn.sc,lo:=if Bf f then t.hp.length else t.lo}:=by
    refine ⟨rfl,R.hd,?_,R.len,R.hx,R.hp,fun x v e=>?_⟩
    .show (if Bf f then t.hp.length else t.lo)<=rn L k (if Bf f then s.hp.length else s.lo)
     induction Bf f using bc with
     |true=>exact Nat.le_of_eq et
     |false=>exact R.lo
    .show AN x (V.BI L k l)=_
     rw [Gm,e];rfl
   induction q3:(ih (.exs fn.body) {s with AA:=l,sc:=fn.sc,lo:=if Bf f then s.hp.length else s.lo}) using oc with
   |none=>rw [q3] at e;exact nn e
   |some r=>
    rw [q3] at e
    obtain ⟨r',e',z⟩:=h (.exs fn.body) _ _ R1 r q3
    rw [show Ac (.exs fn.body) {t with AA:=V.BI L k l,sc:=fn.sc,lo:=if Bf f then t.hp.length else t.lo}=some r' from e']
    induction r using uc with
    |ex c s'=>
     induction r' using uc with
     |ok b t'=>exact z.elim
     |ex d t'=>
      obtain ⟨rfl,R'⟩:=z
      dsimp only at e ⊢
      split at e
      .exact nn e
      .obtain rfl:=aa e
       rw [aj (by assumption)]
       exact ⟨_,rfl,rfl,R.sc,R'.hd,R'.lo,R'.len,R'.hx,R'.hp,R.AA⟩
    |ok a s'=>
     induction r' using uc with
     |ex d t'=>exact z.elim
     |ok b t'=>
      obtain ⟨rfl,R'⟩:=z
      induction a using Res.casesOn with
      |v v=>exact nn e
      |b b=>exact nn e
      |f fl=>
       rw [Sk]
       dsimp only at e ⊢
       have ev:(match fl.rn L k with | .ret v=>v | _=>V.none)=(match fl with | .ret v=>v | _=>V.none).rn L k:=by induction fl using Fl.casesOn <;> rfl
       rw [ev]
       split at e
       .rw [ak (by assumption)]
        generalize (match fl with | .ret v=>v | _=>V.none)=v at e ⊢
        induction q4:fz s.hp.length s'.hp 4 v using oc with
        |none=>rw [q4] at e;exact nn e
        |some v'=>
         rw [q4] at e
         obtain rfl:=aa e
         rw [bZ R ⟨R'.sc,R'.hd,R'.lo,R'.len,R'.hx,R'.hp,R'.AA⟩ 4 q4]
         exact ⟨_,rfl,rfl,R⟩
       .rw [aj (by assumption)]
        obtain rfl:=aa e
        exact ⟨_,rfl,rfl,R.sc,R'.hd,R'.lo,R'.len,R'.hx,R'.hp,R.AA⟩
abbrev CW (L k:Nat) (X:List O) (m m':M Res):Prop:=SM L k X (Res.rn L k) m m'
theorem rL {c:Const}:CW L k X (step ih (.ev (.Constant c j p))) (step Ac (.ev (.Constant c j p))):=by
 induction c using Const.casesOn with
 |int i=>exact An (a:=Res.v (.int i))
 |bool i=>exact An (a:=Res.v (.bool i))
 |none=>exact An (a:=Res.v .none)
 |str s=>
  show CW L k X (if s.length<=1000 then AF (.v (.str s)) else AG) (if s.length<=1000 then AF (.v (.str s)) else AG)
  exact BD (fun h=>h) (An (a:=Res.v (.str s)))
 |_=>exact AX
theorem tM {op:UnaryOp}:CW L k X (step ih (.ev (.UnaryOp op e p))) (step Ac (.ev (.UnaryOp op e p))):=by
 match op with
 | .Not=>exact AX
 | .UAdd=>exact AX
 | .Invert=>exact AX
 | .USub=>
  induction e using Expr.casesOn with
  |Constant c j p=>
   induction c using Const.casesOn with
   |int i=>exact An (a:=Res.v (.int (-i)))
   |_=>exact AX
  |_=>exact AX
theorem rN (h:IM L k X ih Ac) (e:Expr):CW L k X (step ih (.ev e)) (step Ac (.ev e)):=by
 induction e using Expr.casesOn with
 |BoolOp op es pos=>exact E6 (VZ h es)
 |NamedExpr t e pos=>
  induction t using Expr.casesOn with
  |Name x p=>exact AQ (BU h) fun v=>AQ (f:=id) H8 fun _=>An (a:=Res.v v)
  |_=>exact AX
 |BinOp l op r pos=>exact AQ (BU h) fun a=>AQ (BU h) fun b=>E6 Vd
 |UnaryOp op e pos=>exact tM
 |IfExp t a b pos=>exact Vl h (t:=.ts t) (a:=.ev a) (b:=.ev b)
 |Dict ks es pos=>
  show CW L k X (if JJ ks es then AD (dictOf ih ks es) (fun l=>if (l.map (·.1)).Nodup/\l.length<=15 then AF (.v (.dct l)) else AG) else AG) (if JJ ks es then AD (dictOf Ac ks es) (fun l=>if (l.map (·.1)).Nodup/\l.length<=15 then AF (.v (.dct l)) else AG) else AG)
  refine BD (fun h=>h) (AQ (Vh h ks es) fun l=>BD (fun q=>?_) (An (a:=Res.v (.dct l))))
  rw [QF]
  refine ⟨?_,q.2⟩
  have:(V.BI L k l).map (·.1)=l.map (·.1):=by rw [Iw];simp
  rw [this]
  exact q.1
 |ListComp Am gs sc pos=>
  match gs with
  | []=>exact AX
  | [⟨t,i,Ak,a⟩]=>exact AQ (Vf h) fun l=>E6 Jz
  |⟨_,_,_,_⟩::_::_=>exact AX
 |Compare l ops cs pos=>
  match ops,cs with
  | [op],[c]=>
   show CW L k X (if behindInMarks op c then AG else AD (ih.v (.ev l)) fun a=>AD (ih.v (.ev c)) fun b=>AD (cmp op a b) fun r=>AF (.v (.bool r))) (if behindInMarks op c then AG else AD (Ac.v (.ev l)) fun a=>AD (Ac.v (.ev c)) fun b=>AD (cmp op a b) fun r=>AF (.v (.bool r)))
   exact CT Iff.rfl AX (AQ (BU h) fun a=>AQ (BU h) fun b=>AQ (f:=id) QW fun r=>An (a:=Res.v (.bool r)))
  | [],_=>exact AX
  | [_],[]=>exact AX
  | [_],_::_::_=>exact AX
  |_::_::_,_=>exact AX
 |Call f as ks pos=>
  show CW L k X (if ks.isEmpty then AD (Dy ih f as pos) (fun v=>AF (.v v)) else AG) (if ks.isEmpty then AD (Dy Ac f as pos) (fun v=>AF (.v v)) else AG)
  exact BD (fun h=>h) (E6 (rG h))
 |JoinedStr es pos=>exact AQ (f:=id) (sN h es _) fun s=>An (a:=Res.v (.str s))
 |Constant c j pos=>exact rL
 |Attribute o a pos=>
  show CW L k X (if DK o then AD (ih.v (.ev o)) (fun v=>AD (FP v a) fun r=>AF (.v r)) else AG) (if DK o then AD (Ac.v (.ev o)) (fun v=>AD (FP v a) fun r=>AF (.v r)) else AG)
  exact BD (fun h=>h) (AQ (BU h) fun v=>E6 Vj)
 |Subscript o i pos=>exact E6 (s9 h)
 |Name x pos=>
  show CW L k X (if Cd x then AD (name x) (fun v=>AF (.v v)) else AG) (if Cd x then AD (name x) (fun v=>AF (.v v)) else AG)
  exact BD (fun h=>h) (E6 Vq)
 |List es pos=>exact AQ (GS h es) fun l=>E6 Jz
 |Tuple es j pos=>exact AQ (GS h es) fun l=>E6 Vp
 |_=>exact AX
theorem rO (h:IM L k X ih Ac) (e:Expr):CW L k X (step ih (.evm e)) (step Ac (.evm e)):=by
 induction e using Expr.casesOn with
 |List es pos=>exact AQ (GS h es) fun l=>E6 Vs
 |ListComp Am gs sc pos=>
  match gs with
  | []=>exact h (.ev (.ListComp Am [] sc pos))
  | [⟨t,i,Ak,a⟩]=>exact AQ (Vf h) fun l=>E6 Vs
  |⟨t,i,Ak,a⟩::b::c=>exact h (.ev (.ListComp Am (⟨t,i,Ak,a⟩::b::c) sc pos))
 |Dict ks es pos=>
  match ks,es with
  | [],[]=>exact E6 (I3 (o:=.dict [] true))
  | [],b::c=>exact h (.ev (.Dict [] (b::c) pos))
  |a::ks,es=>exact h (.ev (.Dict (a::ks) es pos))
 |_=>exact h (.ev _)
theorem tK (h:IM L k X ih Ac) (e:Expr):CW L k X (step ih (.ts e)) (step Ac (.ts e)):=by
 have pl:CW L k X (AD (ih.v (.ev e)) fun v=>AD (Fv v) fun b=>AF (.b b)) (AD (Ac.v (.ev e)) fun v=>AD (Fv v) fun b=>AF (.b b)):=AQ (BU h) fun v=>Qa V0
 induction e using Expr.casesOn with
 |BoolOp op es pos=>
  induction op using BoolOp.casesOn with
  |And=>exact Qa (QV h es)
  |Or=>exact Qa (rB h es)
 |UnaryOp op e pos=>
  induction op using UnaryOp.casesOn with
  |Not=>exact AQ (f:=id) (I2 h) fun b=>An (a:=Res.b (!b))
  |_=>exact AX
 |Compare l ops cs pos=>
  match ops,cs with
  | [op],[c]=>
   show CW L k X (if behindInMarks op c then AG else AD (ih.v (.ev l)) fun a=>AD (ih.v (.ev c)) fun b=>AD (cmp op a b) fun r=>AF (.b r)) (if behindInMarks op c then AG else AD (Ac.v (.ev l)) fun a=>AD (Ac.v (.ev c)) fun b=>AD (cmp op a b) fun r=>AF (.b r))
   exact CT Iff.rfl AX (AQ (BU h) fun a=>AQ (BU h) fun b=>AQ (f:=id) QW fun r=>An (a:=Res.b r))
  | [],_=>exact AX
  | [_],[]=>exact AX
  | [_],_::_::_=>exact AX
  |_::_::_,_=>exact AX
 |Name x p=>exact pl
 |Call f as ks p=>exact pl
 |Attribute o a p=>exact pl
 |Subscript o i p=>exact pl
 |Constant c j p=>exact pl
 |NamedExpr t e p=>exact pl
 |_=>exact AX
theorem rR (h:IM L k X ih Ac) (ss:List Stmt):CW L k X (step ih (.exs ss)) (step Ac (.exs ss)):=by
 induction ss using lc with
 |nil=>exact An (a:=Res.f .next)
 |cons s r=>
  refine AQ (Ek h) fun f=>?_
  induction f using Fl.casesOn with
  |next=>exact h (.exs r)
  |brk=>exact An (a:=Res.f .brk)
  |cont=>exact An (a:=Res.f .cont)
  |ret v=>exact An (a:=Res.f (.ret v))
theorem tN (h:IM L k X ih Ac) (t:Expr) (a b:List Stmt):CW L k X (step ih (.wh t a b)) (step Ac (.wh t a b)):=by
 refine AQ (f:=id) (I2 h) fun c=>?_
 induction c using bc with
 |false=>exact h (.exs b)
 |true=>
  refine AQ (Ek h) fun f=>?_
  induction f using Fl.casesOn with
  |next=>exact h (.wh t a b)
  |cont=>exact h (.wh t a b)
  |brk=>exact An (a:=Res.f .next)
  |ret v=>exact An (a:=Res.f (.ret v))
theorem ZL:PU (v.rn L k)=PU v:=by induction v using V.casesOn <;> rfl
theorem sQ (h:IM L k X ih Ac) {x:Str × Pos} {as:List Expr}:SM L k X (Fl.rn L k) (Iv ih x as) (Iv Ac x as):=by
 refine Mx (BD (fun h=>h) (AQ (BU h) fun v=>BD (fun q=>by rw [ZL];exact q) ?_))
 exact AQ (GS h as) fun l=>BD (fun q=>by rw [Dc];exact q) QZ
theorem rP (h:IM L k X ih Ac) (st:Stmt):CW L k X (step ih (.ex st)) (step Ac (.ex st)):=by
 induction st using Stmt.casesOn with
 |Return e pos=>
  induction e using oc with
  |none=>exact An (a:=Res.f (.ret .none))
  |some e=>exact AQ (BU h) fun v=>An (a:=Res.f (.ret v))
 |Delete ts pos=>
  show CW L k X (match (one? ts).bind H9 with
   |some q=>AD (ih.v (.ev q.1)) fun ov=>AD (ih.v (.ev q.2.1)) fun iv=>AD (F6 ov iv) fun _=>AF (.f .next)
   |none=>AG) (match (one? ts).bind H9 with
   |some q=>AD (Ac.v (.ev q.1)) fun ov=>AD (Ac.v (.ev q.2.1)) fun iv=>AD (F6 ov iv) fun _=>AF (.f .next)
   |none=>AG)
  induction (one? ts).bind H9 using oc with
  |none=>exact AX
  |some q=>exact AQ (BU h) fun ov=>AQ (BU h) fun iv=>AQ (f:=id) Vg fun _=>An (a:=Res.f .next)
 |Assign ts e pos=>exact rD h
 |AugAssign t op e pos=>
  have g1:∀x:Str × Pos,CW L k X (if Cd x.1 then AD (name x.1) (fun a=>AD (ih.v (.ev e)) fun b=>AD (FD op a b) fun c=>AD (store x.1 c) fun _=>AF (.f .next)) else AG) (if Cd x.1 then AD (name x.1) (fun a=>AD (Ac.v (.ev e)) fun b=>AD (FD op a b) fun c=>AD (store x.1 c) fun _=>AF (.f .next)) else AG):=fun x=>
   BD (fun h=>h) (AQ Vq fun a=>AQ (BU h) fun b=>AQ Vc fun c=>AQ (f:=id) H8 fun _=>An (a:=Res.f .next))
  induction hq:name? t using oc with
  |some x=>rw [Hs hq];exact g1 x
  |none=>
   induction GG:JF t using oc with
   |none=>rw [SX hq GG];exact AX
   |some q=>rw [Rb GG];exact AQ (BU h) fun ov=>AQ Vj fun a=>AQ (BU h) fun b=>AQ Vc fun c=>AQ (f:=id) Vy fun _=>An (a:=Res.f .next)
 |For t i a b pos=>
  refine AQ (BU h) fun v=>AQ M0 fun p=>?_
  show CW L k X (AD (Cm ih t a b v p.1 p.2.length p.2.length) fun f=>AF (.f f)) (AD (Cm Ac t a b (v.rn L k) p.1 (V.Af L k p.2).length (V.Af L k p.2).length) fun f=>AF (.f f))
  rw [Dc]
  exact Qc (rT h _)
 |While t a b pos=>exact h (.wh t a b)
 |If t a b pos=>exact Vl h (t:=.ts t) (a:=.exs a) (b:=.exs b)
 |Raise e c pos=>
  show CW L k X (match Hx e c with
   |some q=>AD (Iv ih q.1 q.2) fun f=>AF (.f f)
   |none=>AG) (match Hx e c with
   |some q=>AD (Iv Ac q.1 q.2) fun f=>AF (.f f)
   |none=>AG)
  induction Hx e c using oc with
  |none=>exact AX
  |some q=>exact Qc (sQ h)
 |Try body hs orelse fin pos=>exact Qc (tE h)
 |Assert t m pos=>
  refine AQ (f:=id) (I2 h) fun c=>?_
  induction c using bc with
  |true=>exact An (a:=Res.f .next)
  |false=>exact AX
 |Expr e pos=>
  show CW L k X (if EZ e then AG else AD (ih.v (.ev e)) fun _=>AF (.f .next)) (if EZ e then AG else AD (Ac.v (.ev e)) fun _=>AF (.f .next))
  exact CT Iff.rfl AX (AQ (BU h) fun _=>An (a:=Res.f .next))
 |Pass pos=>exact An (a:=Res.f .next)
 |Break pos=>exact An (a:=Res.f .brk)
 |Continue pos=>exact An (a:=Res.f .cont)
 |_=>exact AX
theorem sy (h:IM L k X ih Ac):IM L k X (step ih) (step Ac):=fun t=>by
 induction t using T.casesOn with
 |ev e=>exact rN h e
 |evm e=>exact rO h e
 |ts e=>exact tK h e
 |ex s=>exact rP h s
 |exs ss=>exact rR h ss
 |wh t a b=>exact tN h t a b
 |call f as=>exact rF h
theorem EH:∀{n m:Nat},n<=m->IM L k X (run n) (run m)
 |0,m,_=>fun t=>AX
 |n+1,0,h=>absurd h (by lia)
 |n+1,m+1,h=>sy (EH (Nat.le_of_succ_le_succ h))
theorem BW (L i:Nat):rn L 0 i=i:=by unfold rn;split <;> rfl
theorem V.BW (L:Nat) (v:V):v.rn L 0=v:=
 V.rec (motive_1:=fun v=>v.rn L 0=v) (motive_2:=fun l=>V.Af L 0 l=l) (motive_3:=fun l=>V.BI L 0 l=l) (motive_4:=fun p=>((p.1,p.2.rn L 0):Str × V)=p)
  rfl (fun _=>rfl) (fun _=>rfl) (fun _=>rfl) (fun i=>congrArg V.ref (Mine.BW L i)) (fun _ h=>congrArg V.lst h) (fun _ h=>congrArg V.tup h) (fun _ h=>congrArg V.dct h) (fun _=>rfl) (fun i=>congrArg V.vals (Mine.BW L i)) (fun _=>rfl) (fun _=>rfl) (fun _=>rfl) (fun s i=>congrArg (V.bm s) (Mine.BW L i)) rfl (fun _ _ h t=>by rw [pM,h,t]) rfl (fun _ _ h t=>by rw [QE,h,t]) (fun a _ h=>congrArg (Prod.mk a) h) v
theorem V.GO (L:Nat) (l:List V):V.Af L 0 l=l:=(Dn l).trans ((List.map_congr_left fun v _=>V.BW L v).trans (List.map_id l))
theorem V.VG (L:Nat) (l:List (Str × V)):V.BI L 0 l=l:=(Iw l).trans ((List.map_congr_left fun v _=>congrArg (Prod.mk v.1) (V.BW L v.2)).trans (List.map_id l))
theorem O.BW (L:Nat) (o:O):o.rn L 0=o:=by
 have ov:∀o:Option V,o.map (V.rn L 0)=o:=fun o=>by induction o using oc with | none=>rfl | some v=>simp [V.BW]
 induction o using O.casesOn with
 |list l=>exact congrArg O.list (V.GO L l)
 |dict l c=>exact congrArg (O.dict · c) (V.VG L l)
 |inst l=>exact congrArg O.inst (V.VG L l)
 |node n p s=>show O.node _ _ _=_;rw [ov,ov,ov]
 |iter l i=>exact congrArg (O.iter · i) (Mine.BW L l)
 |_=>rfl
theorem Tf (L:Nat) (hp:List O):ins L 0 [] hp=hp:=by
 unfold ins
 rw [List.append_nil,<-List.map_append,List.take_append_drop]
 conv=>rhs;rw [<-List.map_id hp]
 exact List.map_congr_left fun o _=>O.BW L o
structure SE (s t:S):Prop where
 sc:t.sc=s.sc
 hd:t.hd=s.hd
 lo:t.lo<=s.lo
 hp:t.hp=s.hp
 AA:∀x v,AN x s.AA=some v->AN x t.AA=some v
theorem SE.refl (s:S):SE s s:=⟨rfl,rfl,ao _,rfl,fun _ _ e=>e⟩
theorem SE.trans {a b c:S} (x:SE a b) (y:SE b c):SE a c:=⟨y.sc.trans x.sc,y.hd.trans x.hd,bg y.lo x.lo,y.hp.trans x.hp,fun v w e=>y.AA v w (x.AA v w e)⟩
theorem SE.sr (x:SE s t):SR 0 0 [] s t:=⟨x.sc,x.hd,by rw [Mine.BW];exact x.lo,Nat.zero_le _,rfl,by rw [Tf];exact x.hp,fun v w e=>by rw [V.BW];exact x.AA v w e⟩
theorem SR.se (x:SR 0 0 [] s t):SE s t:=⟨x.sc,x.hd,by have:=x.lo;rw [Mine.BW] at this;exact this,by rw [x.hp,Tf],fun v w e=>by have:=x.AA v w e;rw [V.BW] at this;exact this⟩
set_option tactic.hygienic true in
theorem M9 {E:Loc} (h:∀p∈E',AN p.1 E=some p.2):∀x v,AN x E'=some v->AN x E=some v:=by
 intro x v e
 induction E' with
 |nil=>exact nn e
 |cons p r ih=>
  obtain ⟨y,u⟩:=p
  unfold AN at e
  split at e
  .rename_i hy
   obtain rfl:=aa e
   have:=h (y,_) (.head _)
   rw [<-eq_of_beq hy]
   exact this
  .exact ih (fun p m=>h p (.tail _ m)) e
theorem DN {f:α->α} (hf:∀a,f a=a) {m m':M α} (h:SM 0 0 [] f m m') (x:SE s t) {a:α} (e:m s=some (.ok a s')):∃t',m' t=some (.ok a t')/\SE s' t':=by
 obtain ⟨o',e',z⟩:=h s t x.sr _ e
 induction o' using uc with
 |ok b t'=>
  obtain ⟨rfl,R⟩:=z
  rw [hf] at e'
  exact ⟨t',e',R.se⟩
 |ex c t'=>exact z.elim
theorem QU {f:α->α} {m m':M α} (h:SM 0 0 [] f m m') (x:SE s t) {c:String} (e:m s=some (.ex c s')):∃t',m' t=some (.ex c t')/\SE s' t':=by
 obtain ⟨o',e',z⟩:=h s t x.sr _ e
 induction o' using uc with
 |ok b t'=>exact z.elim
 |ex d t'=>obtain ⟨rfl,R⟩:=z;exact ⟨t',e',R.se⟩
theorem Fl.BW (L:Nat) (f:Fl):f.rn L 0=f:=by induction f using Fl.casesOn with
 |ret v=>exact congrArg Fl.ret (V.BW L v)
 |_=>rfl
theorem T.BW (L:Nat) (t:T):t.rn L 0=t:=by induction t using T.casesOn with
 |call f as=>exact congrArg (T.call f) (V.GO L as)
 |_=>rfl
theorem KA (h:n<=m) (x:SE s t) (e:Ih.f (run n) a s=some (.ok fl s')):∃t',Ih.f (run m) a t=some (.ok fl t')/\SE s' t':=by
 have:=Ek (EH (L:=0) (k:=0) (X:=[]) h) (t:=a)
 rw [T.BW] at this
 exact DN (Fl.BW 0) this x e
theorem Wd (h:n<=m) (x:SE s t) (e:Ih.v (run n) a s=some (.ok v s')):∃t',Ih.v (run m) a t=some (.ok v t')/\SE s' t':=by
 have:=BU (EH (L:=0) (k:=0) (X:=[]) h) (t:=a)
 rw [T.BW] at this
 exact DN (V.BW 0) this x e
theorem wu (h:n<=m) (x:SE s t) (e:Ih.b (run n) a s=some (.ok b s')):∃t',Ih.b (run m) a t=some (.ok b t')/\SE s' t':=by
 have:=I2 (EH (L:=0) (k:=0) (X:=[]) h) (t:=a)
 rw [T.BW] at this
 exact DN (fun _=>rfl) this x e
theorem wz (h:n<=m) (x:SE s t) {c:String} (e:Ih.f (run n) a s=some (.ex c s')):∃t',Ih.f (run m) a t=some (.ex c t')/\SE s' t':=by
 have:=Ek (EH (L:=0) (k:=0) (X:=[]) h) (t:=a)
 rw [T.BW] at this
 exact QU this x e
theorem w4 (h:n<=m) (x:SE s t) {c:String} (e:Ih.v (run n) a s=some (.ex c s')):∃t',Ih.v (run m) a t=some (.ex c t')/\SE s' t':=by
 have:=BU (EH (L:=0) (k:=0) (X:=[]) h) (t:=a)
 rw [T.BW] at this
 exact QU this x e
def Go (n:Nat) (ss:List Stmt) (s s':S):Prop:=∃t,Ih.f (run n) (.exs ss) s=some (.ok .next t)/\SE s' t
theorem Go.up (g:Go n ss s s') (h:n<=m) (x:SE s t):Go m ss t s':=by
 obtain ⟨t',e,y⟩:=g
 obtain ⟨vB,e',z⟩:=KA h x e
 exact ⟨vB,e',y.trans z⟩
theorem OT {x:Stmt} {r:List Stmt} (e:Ih.f (run n) (.ex x) s=some (.ok .next s')):Ih.f (run (n+1)) (.exs (x::r)) s=Ih.f (run n) (.exs r) s':=by
 rw [Av,JM,AJ e]
theorem Go.seq {n m:Nat}:∀{xs ys:List Stmt} {s s':S},Go n xs s s'->∀{fl:Fl} {o:S},Ih.f (run m) (.exs ys) s'=some (.ok fl o)->∀N,n<=N->m+xs.length<=N->∃o',Ih.f (run N) (.exs (xs++ys)) s=some (.ok fl o')/\SE o o'
 | [],ys,s,s',g,fl,o,e,N,h1,h2=>by
  obtain ⟨t,e1,x⟩:=g
  induction n using zc with
  |zero=>exact nn e1
  |succ n=>
   rw [Av,JN] at e1
   cases e1
   exact KA (by simpa using h2) x e
 |x::xs,ys,s,s',g,fl,o,e,N,h1,h2=>by
  obtain ⟨t,e1,z⟩:=g
  cases n with
  |zero=>exact nn e1
  |succ n=>
   obtain ⟨N,rfl⟩:=Nat.exists_eq_add_one_of_ne_zero (n:=N) (by lia)
   rw [Av,JM] at e1
   induction q:Ih.f (run n) (.ex x) s using oc with
   |none=>rw [BQ q] at e1;exact nn e1
   |some r=>
    induction r using uc with
    |ex c s1=>rw [Bu q] at e1;cases e1
    |ok f s1=>
     rw [AJ q] at e1
     induction f using Fl.casesOn with
     |next=>
      obtain ⟨s2,q2,z2⟩:=KA (Nat.le_of_succ_le_succ h1) (SE.refl s) q
      have g':Go n xs s1 s':=⟨t,e1,z⟩
      obtain ⟨o',e',w⟩:=Go.seq (g'.up (ao _) z2) e N (by lia) (by simp at h2;lia)
      exact ⟨o',by rw [List.cons_append,OT q2];exact e',w⟩
     |brk=>cases e1
     |cont=>cases e1
     |ret v=>cases e1
theorem GP (x:SE s t) {p:Bool × List V} (e:Bg v s=some (.ok p s)):Bg v t=some (.ok p t):=by
 obtain ⟨t',e',y⟩:=DN (f:=II 0 0) (fun a=>by unfold II;rw [V.GO]) (by have:=M0 (L:=0) (k:=0) (X:=[]) (v:=v);rw [V.BW] at this;exact this) x e
 obtain ⟨_,_,_,z,_⟩:=LM e'
 rw [e']
 cases z
 rfl
theorem V7 (x:SE s t) {y:Str} (h:s.sc.lookup y=some .local\/s.sc.lookup y=some .cell):∃t',store y v t=some (.ok () t')/\SE {s with AA:=Ao y v s.AA} t':=by
 have e:store y v s=some (.ok () {s with AA:=Ao y v s.AA}):=by
  unfold store
  rcases h with h | h <;> rw [h]
 have:=H8 (L:=0) (k:=0) (X:=[]) (x:=y) (v:=v)
 rw [V.BW] at this
 exact DN (fun _=>rfl) this x e
theorem bO {x:Str} (e:σ->S) {as:List α}
  (Ct:∀r c,Inv r c->Bg Ai (e c)=some (.ok (kd,as.map vV) (e c))) (Ez:∀c,(e c).sc.lookup x=some .local\/(e c).sc.lookup x=some .cell)
  (hb:∀a r c,a∈as->Inv (a::r) c->(∃fl,(fl = .next\/fl = .cont)/\∃s',Ih.f (run N) (.exs body) {e c with AA:=Ao x (vV a) (e c).AA}=some (.ok fl s')/\SE (e (stp c a)) s')/\Inv r (stp c a)) :
  ∀(r:List α) (pre:List α) (c:σ) (s:S),as=pre++r->Inv r c->SE (e c) s->∃s',Cm (run N) (.Name x p) body orelse Ai kd as.length r.length s=Ih.f (run N) (.exs orelse) s'/\SE (e (r.foldl stp c)) s'/\Inv [] (r.foldl stp c):=by
 intro r
 induction r with
 |nil=>
  intro pre c s h I z
  have hs:=GP z (Ct _ _ I)
  refine ⟨s,?_,z,I⟩
  show AD (Bs Ai kd as.length as.length) _ s=_
  have ht:Bs Ai kd as.length as.length s=some (.ok none s):=by
   show AD (Bg Ai) _ s=_
   rw [AJ hs]
   simp [AF]
  rw [AJ ht]
 |cons a r ih=>
  intro pre c s h I z
  have hs:=GP z (Ct _ _ I)
  have hl:as.length=pre.length+(r.length+1):=by rw [h];simp
  have ht:Bs Ai kd as.length (as.length-(r.length+1)) s=some (.ok (some (vV a)) s):=by
   show AD (Bg Ai) _ s=_
   rw [AJ hs]
   have hi:(as.map vV)[as.length-(r.length+1)]? = some (vV a):=by
    rw [hl,Nat.add_sub_cancel,h]
    simp
   simp [AF,hi]
  obtain ⟨t,et,zt⟩:=V7 z (v:=vV a) (Ez c)
  obtain ⟨⟨fl,GC,s1,e1,z1⟩,I'⟩:=hb a r c (by rw [h];simp) I
  obtain ⟨s2,e2,z2⟩:=KA (ao N) zt e1
  obtain ⟨s3,e3,z3⟩:=ih (pre++[a]) (stp c a) s2 (by rw [h];simp) I' (z1.trans z2)
  refine ⟨s3,?_,z3⟩
  show AD (Bs Ai kd as.length (as.length-(r.length+1))) _ s=_
  rw [AJ ht]
  show AD (store x (vV a)) _ s=_
  rw [AJ et]
  show AD (Ih.f (run N) (.exs body)) _ t=_
  rw [AJ e2]
  rcases GC with rfl | rfl <;> exact e3
theorem ZE {as:List α} {g:α->V} {pr:α->Bool}
  (Ct:Bg Ai e0=some (.ok (kd,as.map vV) e0)) (Oq:∀a∈as,SE e0 (ea a))
  (Gr:∀a∈as,∀s,SE e0 s->∃s',Ci (run N) (vV a) target s=some (.ok () s')/\SE (ea a) s')
  (Ow:∀a∈as,∃t,DE (run N) Ak (ea a)=some (.ok (pr a) t)/\SE (ea a) t) (Ot:∀a∈as,pr a=true->∃t,Ih.v (run N) (.ev Am) (ea a)=some (.ok (g a) t)/\SE (ea a) t) :
  ∀(r:List α) (pre:List α) (s:S),as=pre++r->SE e0 s->∃s',C4 (run N) Am target Ak Ai kd as.length r.length s=some (.ok ((r.filter pr).map g) s')/\SE e0 s':=by
 intro r
 induction r with
 |nil=>
  intro pre s h z
  have hs:=GP z Ct
  refine ⟨s,?_,z⟩
  show AD (Bs Ai kd as.length as.length) _ s=_
  have ht:Bs Ai kd as.length as.length s=some (.ok none s):=by
   show AD (Bg Ai) _ s=_
   rw [AJ hs]
   simp [AF]
  rw [AJ ht]
  rfl
 |cons a r ih=>
  intro pre s h z
  have hs:=GP z Ct
  have ha:a∈as:=by rw [h];simp
  have hl:as.length=pre.length+(r.length+1):=by rw [h];simp
  have ht:Bs Ai kd as.length (as.length-(r.length+1)) s=some (.ok (some (vV a)) s):=by
   show AD (Bg Ai) _ s=_
   rw [AJ hs]
   have hi:(as.map vV)[as.length-(r.length+1)]? = some (vV a):=by
    rw [hl,Nat.add_sub_cancel,h]
    simp
   simp [AF,hi]
  obtain ⟨t,et,zt⟩:=Gr a ha s z
  obtain ⟨u0,Zt,z0⟩:=Ow a ha
  obtain ⟨u,eu,zu⟩:=DN (fun _=>rfl) (QV (EH (L:=0) (k:=0) (X:=[]) (ao N)) Ak) zt Zt
  have Wl:SE (ea a) u:=z0.trans zu
  show ∃s',AD (Bs Ai kd as.length (as.length-(r.length+1))) _ s=_/\_
  rw [AJ ht]
  show ∃s',AD (Ci (run N) (vV a) target) _ s=_/\_
  rw [AJ et]
  show ∃s',AD (DE (run N) Ak) _ t=_/\_
  rw [AJ eu]
  have nx:∀{w:S},SE (ea a) w->_:=fun {w} y=>ih (pre++[a]) w (by rw [h];simp) ((Oq a ha).trans y)
  induction hp:pr a using bc with
  |false=>
   obtain ⟨s3,e3,z3⟩:=nx Wl
   exact ⟨s3,by rw [List.filter_cons_of_neg (by rw [hp];simp)];exact e3,z3⟩
  |true=>
   obtain ⟨v0,e1,z1⟩:=Ot a ha hp
   obtain ⟨v1,e2,z2⟩:=Wd (ao N) Wl e1
   obtain ⟨s3,e3,z3⟩:=nx (z1.trans z2)
   refine ⟨s3,?_,z3⟩
   show AD (Ih.v (run N) (.ev Am)) _ u=_
   rw [AJ e2]
   show AD (C4 (run N) Am target Ak Ai kd as.length r.length) _ v1=_
   rw [AJ e3,List.filter_cons_of_pos hp]
   rfl
theorem FH {sc:Scope} {as:List α} {g:α->V} {pr:α->Bool}
  (hg:(AP s0.sc sc.names && !GH sc.names&&IS iter asy sc)=true) (hi:Ih.v (run N) (.ev iter) s0=some (.ok Ai s0))
  (Ct:∀E DM,Bg Ai {s0 with AA:=E,sc:=DM}=some (.ok (kd,as.map vV) {s0 with AA:=E,sc:=DM})) (Oq:∀a∈as,SE {s0 with AA:=DA sc.names s0.AA,sc:=sc.names} (ea a))
  (Gr:∀a∈as,∀s,SE {s0 with AA:=DA sc.names s0.AA,sc:=sc.names} s->∃s',Ci (run N) (vV a) target s=some (.ok () s')/\SE (ea a) s')
  (Ow:∀a∈as,∃t,DE (run N) Ak (ea a)=some (.ok (pr a) t)/\SE (ea a) t) (Ot:∀a∈as,pr a=true->∃t,Ih.v (run N) (.ev Am) (ea a)=some (.ok (g a) t)/\SE (ea a) t) :
  ∃s',comp (run N) Am target iter Ak asy sc s0=some (.ok ((as.filter pr).map g) s')/\SE s0 s':=by
 simp only [Bool.and_eq_true,Bool.not_eq_true'] at hg
 obtain ⟨s1,e1,z1⟩:=ZE (N:=N) (Am:=Am) (Ct (DA sc.names s0.AA) sc.names) Oq Gr Ow Ot as [] _ rfl (.refl _)
 refine ⟨{s1 with AA:=s0.AA,sc:=s0.sc},?_,rfl,z1.hd,z1.lo,z1.hp,fun _ _ e=>e⟩
 unfold comp
 rw [ak ⟨hg.1.1,hg.1.2,hg.2⟩]
 show AD (Ih.v (run N) (.ev iter)) _ s0=_
 rw [AJ hi]
 show AD (Bg Ai) _ s0=_
 rw [AJ (Ct s0.AA s0.sc)]
 show F5 (run N) Am target Ak Ai kd (as.map vV).length sc.names s0=_
 unfold F5
 rw [bu,e1]
noncomputable def nm (i:Nat):Str:=(["a","ab","b","ba","aab"]:List Str).getD i ""
noncomputable def nV (i:Nat):V:=.str (nm i)
noncomputable def pc (i:Nat):Str:=(["a","b","?","*","[ab]","[!a]"]:List Str).getD i ""
def C9 (r:List Nat):V:=.lst (r.map fun i=>.str (pc i))
noncomputable def rows:List (List Nat):=(List.range 6).map (fun i=>[i])++(List.range 36).map fun j=>[j % 6,j / 6]
noncomputable def sgn (i:Nat):List Nat:=([[0],[1,0],[1],[0,1],[1,0,0]]:List (List Nat)).getD i []
noncomputable def lets (p:Nat):List Nat:=([[0],[1],[0,1],[],[0,1],[1]]:List (List Nat)).getD p []
noncomputable def OW:List Nat->List Nat->Bool
 | [],n=>n.isEmpty
 |3::r,n=>(List.range (n.length+1)).any fun k=>OW r (n.drop k)
 |p::r,c::n=>(lets p).contains c&&OW r n
 |_::_,[]=>false
def D4 (r:List Nat) (i:Nat):Bool:=OW r.reverse (sgn i)
noncomputable def prs (l:List (List Nat)):List (List Nat × Nat):=l.flatMap fun r=>(List.range 5).map fun i=>(r,i)
def Iz (r:List Nat):V:=.str ⟨(r.flatMap fun i=>(pc i).cps.toList).toArray⟩
noncomputable def s1 (sc:Sc):S:=⟨[],sc,1,0,[.tab,.obj]⟩
def GW (r:List Nat):V:=match Ih.v (run 37) (.call 62 [Iz r,.ref 1,.str "."]) (s1 []) with | some (.ok v _)=>v | _=>.none
theorem bF (E:Loc) (sc:Sc) (lo:Nat) (hp:List O):(prs rows).map (fun p=>Ih.v (run 27) (.call 206 [C9 p.1,nV p.2]) ⟨E,sc,lo,0,hp⟩)=(prs rows).map (fun p=>some (.ok (.bool (D4 p.1 p.2)) ⟨E,sc,lo,0,hp⟩)):=by kernel_rfl
theorem wB (sc:Sc):rows.map (fun r=>Ih.v (run 37) (.call 62 [Iz r,.ref 1,.str "."]) (s1 sc))=rows.map (fun r=>some (.ok (GW r) (s1 sc))):=by kernel_rfl
def HH (l:List (List Nat)):Prop:=∀r,r∈l->∀κ,κ<5->∀sc:Sc,Ih.v (run 37) (.call 201 [GW r,.ref 1,nV κ]) (s1 sc)=some (.ok (.bool (D4 r κ)) (s1 sc))
theorem lz {l:List (List Nat)} {r:List Nat} (hr:r∈l) (C6:κ<5):(r,κ)∈prs l:=List.mem_flatMap.mpr ⟨r,hr,List.mem_map.mpr ⟨κ,List.mem_range.mpr C6,rfl⟩⟩
theorem Ql {l:List (List Nat)} (h:∀sc:Sc,l.map (fun r=>(fun v=>(List.range 5).map fun κ=>Ih.v (run 37) (.call 201 [v,.ref 1,nV κ]) (s1 sc)) (GW r))=l.map (fun r=>(List.range 5).map fun κ=>some (.ok (.bool (D4 r κ)) (s1 sc)))):HH l:=
 fun r hr κ C6 sc=>List.map_inj_left.mp (List.map_inj_left.mp (h sc) r hr) κ (List.mem_range.mpr C6)
theorem vU:HH (rows.take 14):=Ql fun sc=>by kernel_rfl
theorem vW:HH ((rows.drop 14).take 14):=Ql fun sc=>by kernel_rfl
theorem vX:HH (rows.drop 28):=Ql fun sc=>by kernel_rfl
theorem WO {a c:List (List Nat)} (x:HH a) (y:HH c):HH (a++c):=fun r h=>(List.mem_append.mp h).elim (x r) (y r)
theorem vQ:HH rows:=(show rows.take 14++((rows.drop 14).take 14++rows.drop 28)=rows by kernel_rfl) ▸ WO vU (WO vW vX)
noncomputable def D9:List Nat:=[0,4,1,2,3]
noncomputable def subs:List Nat->List (List Nat)
 | []=>[[]]
 |x::r=>(subs r)++(subs r).map (x :: ·)
def BZ (U:List Nat):List Nat:=D9.flatMap fun i=>if U.contains i then [] else if (U.getLast?.map fun m=>(D9.dropWhile (· != m)).contains i).getD true then [i,i] else [i]
def full:List Nat:=D9.flatMap fun i=>[i,i]
noncomputable def Aq (l:List Nat):V:=.lst (l.map nV)
theorem qx (sc:Sc):(subs D9).map (fun U=>Ih.v (run 60) (.call 189 [Aq full,Aq U]) ⟨[],sc,1,0,[.tab]⟩)=(subs D9).map (fun U=>some (.ok (.tup [Aq (BZ U),.lst []]) ⟨[],sc,1,0,[.tab]⟩)):=by kernel_rfl
theorem Zj (sc:Sc):(subs D9).map (fun U=>Ih.v (run 60) (.call 189 [Aq U,Aq full]) ⟨[],sc,1,0,[.tab]⟩)=(subs D9).map (fun U=>some (.ok (.tup [.lst [],Aq (BZ U)]) ⟨[],sc,1,0,[.tab]⟩)):=by kernel_rfl
noncomputable def e1:Expr->Expr
 | .Subscript o _ _=>o
 | .BinOp l _ _ _=>l
 | .Compare l _ _ _=>l
 | .Attribute o _ _=>o
 | .Call f _ _ _=>f
 | .BoolOp _ (a::_) _=>a
 | .UnaryOp _ e _=>e
 | .NamedExpr _ e _=>e
 | .List (a::_) _=>a
 | .Tuple (a::_) _ _=>a
 | .ListComp a _ _ _=>a
 |e=>e
noncomputable def e2:Expr->Expr
 | .Subscript _ i _=>i
 | .BinOp _ _ r _=>r
 | .Compare _ _ (r::_) _=>r
 | .Call _ (a::_) _ _=>a
 | .BoolOp _ (_::b::_) _=>b
 | .List (_::b::_) _=>b
 | .Tuple (_::b::_) _ _=>b
 | .ListComp _ (⟨_,i,_,_⟩::_) _ _=>i
 |e=>e
noncomputable def eP:Expr->Pos
 | .Subscript _ _ p=>p
 | .BinOp _ _ _ p=>p
 | .Compare _ _ _ p=>p
 | .Attribute _ _ p=>p
 | .Call _ _ _ p=>p
 | .BoolOp _ _ p=>p
 | .UnaryOp _ _ p=>p
 | .NamedExpr _ _ p=>p
 | .List _ p=>p
 | .Tuple _ _ p=>p
 | .Name _ p=>p
 | .ListComp _ _ _ p=>p
 |_=>default
noncomputable def B4:Expr->Scope
 | .ListComp _ _ s _=>s
 |_=>default
noncomputable def C7:Expr->Expr
 | .ListComp _ (⟨t,_,_,_⟩::_) _ _=>t
 |e=>e
noncomputable def Il:Expr->List Expr
 | .ListComp _ (⟨_,_,i,_⟩::_) _ _=>i
 |_=>[]
noncomputable def sE:Stmt->Expr
 | .Expr e _=>e
 | .Assign _ e _=>e
 | .Return (some e) _=>e
 | .If t _ _ _=>t
 | .While t _ _ _=>t
 | .For _ i _ _ _=>i
 | .AugAssign _ _ e _=>e
 |_=>.Constant .none 0 default
noncomputable def sT:Stmt->Expr
 | .Assign (t::_) _ _=>t
 | .For t _ _ _ _=>t
 | .AugAssign t _ _ _=>t
 |_=>.Constant .none 0 default
noncomputable def sA:Stmt->List Stmt
 | .If _ a _ _=>a
 | .While _ a _ _=>a
 | .For _ _ a _ _=>a
 | .Try a _ _ _ _=>a
 |_=>[]
noncomputable def sB:Stmt->List Stmt
 | .If _ _ b _=>b
 | .While _ _ b _=>b
 | .For _ _ _ b _=>b
 | .Try _ _ b _ _=>b
 |_=>[]
noncomputable def sP:Stmt->Pos
 | .Expr _ p=>p
 | .Assign _ _ p=>p
 | .Return _ p=>p
 | .If _ _ _ p=>p
 | .While _ _ _ p=>p
 | .For _ _ _ _ p=>p
 | .AugAssign _ _ _ p=>p
 | .Try _ _ _ _ p=>p
 |_=>default
noncomputable def at_ (l:List Stmt) (i:Nat):Stmt:=l.getD i (.Pass default)
def A0 (f:Nat):List Stmt:=(Aj f).body
theorem J3 {o i:Expr} (hi:slice? i=none) (h1:Ih.v (run n) (.ev o) s=some (.ok ov s)) (h2:Ih.v (run n) (.ev i) s=some (.ok iv s)):Ih.v (run (n+1)) (.ev (.Subscript o i p)) s=item ov iv s:=by
 have e:Ih.v (run (n+1)) (.ev (.Subscript o i p))=G9 (run n) o i:=Lw
 rw [e]
 have e':G9 (run n) o i=AD (Ih.v (run n) (.ev o)) fun ov=>AD (Ih.v (run n) (.ev i)) fun iv=>item ov iv:=by
  unfold G9;rw [hi]
 rw [e',AJ h1,AJ h2]
theorem item_list {l:List V} (h:s.hp[i]? = some (.list l)) (hk:l[k]? = some v):item (.ref i) (.int k) s=some (.ok v s):=by
 have hl:k<l.length:=(List.getElem?_eq_some_iff.mp hk).1
 have h1:items (.ref i) s=some (.ok l s):=by
  show AD (A4 i) _ s=_
  unfold AD A4
  rw [h];rfl
 show AD (items (.ref i)) _ s=_
 rw [AJ h1]
 have h2:place l.length (k:Int)=some k:=by
  show (if k<l.length then some k else none)=_
  rw [ak hl]
 rw [h2]
 dsimp only
 rw [hk];rfl
theorem Xr:Cc "append" = "append":=by kernel_rfl
theorem Nj {o:Expr} (hp:(DK o&&ap.endLine==cp.line)=true) (hs:Bk E=false) {l:List V}
  (ho:Ih.v (run n) (.ev o) s=some (.ok (.ref i) s)) (hi:s.hp[i]? = some (.list l)) (hE:Ih.v (run n) (.ev E) s=some (.ok v s)) (hl:l.length<1000) (Bc:s.lo<=i) :
  Ih.f (run (n+2)) (.ex (.Expr (.Call (.Attribute o "append" ap) [E] [] cp) p)) s=some (.ok .next {s with hp:=s.hp.set i (.list (l++[v]))}):=by
 rw [Av,Lz,aj (show ¬ EZ (.Call (.Attribute o "append" ap) [E] [] cp)=true from Bool.false_ne_true)]
 have e:Ih.v (run (n+1)) (.ev (.Call (.Attribute o "append" ap) [E] [] cp))=AD (Ih.v (run n) (.ev o)) (HV (run n) "append" [E]):=by
  rw [Av,EP]
  show (if DK o&&ap.endLine==cp.line then Gi (run n) o "append" [E] else AG)=_
  rw [ak hp,Lp]
 have FT:DW [E]=true:=by unfold DW;simp [hs]
 have hg:A4 i s=some (.ok (.list l) s):=by unfold A4;rw [hi]
 have e2:HV (run n) "append" [E] (.ref i) s=some (.ok .none {s with hp:=s.hp.set i (.list (l++[v]))}):=by
  show AD (A4 i) _ s=_
  rw [AJ hg]
  show Fe (run n) i (.list l) "append" [E] s=_
  unfold Fe
  rw [Xr,Pu]
  show (if DW [E] then AD (BG (run n) [E]) (fun l=>GL ("list","list.append") i "append" l) else AG) s=_
  rw [ak FT]
  have he:BG (run n) [E] s=some (.ok [v] s):=by
   rw [F9 hs,AJ hE];rfl
  rw [AJ he]
  show AD (A4 i) _ s=_
  rw [AJ hg,ak Pu]
  show AD (A4 i) _ s=_
  rw [AJ hg]
  show Dm i l "append" [v] s=_
  rw [Pn]
  have:CO i (l++[v]) s=some (.ok () {s with hp:=s.hp.set i (.list (l++[v]))}):=by
   unfold CO
   rw [ak (by simp;lia)]
   unfold BJ
   rw [ak Bc]
  rw [AJ this];rfl
 rw [e,A9,AJ ho,AJ e2]
 rfl
theorem Xv {x:Str} {q:Pos} (hm:Dl e=false) (hx:s'.sc.lookup x=some .local\/s'.sc.lookup x=some .cell) (he:Ih.v (run n) (.ev e) s=some (.ok v s')):Ih.f (run (n+1)) (.ex (.Assign [.Name x p] e q)) s=some (.ok .next {s' with AA:=Ao x v s'.AA}):=by
 rw [Av,IW rfl,hm,aj (by decide),AJ he]
 show AD (AD (store x v) fun _=>AF ()) _ s'=_
 have:store x v s'=some (.ok () {s' with AA:=Ao x v s'.AA}):=by
  unfold store
  rcases hx with h | h <;> rw [h]
 unfold AD
 rw [this]
 rfl
theorem Ln {x:Str} {q:Pos} (hm:Dl e=true) (hx:s'.sc.lookup x=some .local\/s'.sc.lookup x=some .cell) (he:Ih.v (run n) (.evm e) s=some (.ok v s')):Ih.f (run (n+1)) (.ex (.Assign [.Name x p] e q)) s=some (.ok .next {s' with AA:=Ao x v s'.AA}):=by
 rw [Av,IW rfl,hm,ak rfl,AJ he]
 show AD (AD (store x v) fun _=>AF ()) _ s'=_
 have:store x v s'=some (.ok () {s' with AA:=Ao x v s'.AA}):=by
  unfold store
  rcases hx with h | h <;> rw [h]
 unfold AD
 rw [this]
 rfl
theorem lG (hs:Bk E=false) (he:Ih.v (run n) (.ev E) s=some (.ok v s)):Ih.v (run (n+1)) (.evm (.List [E] p)) s=some (.ok (.ref s.hp.length) {s with hp:=s.hp++[.list [v]]}):=by
 have e:Ih.v (run (n+1)) (.evm (.List [E] p))=AD (BG (run n) [E]) newL:=by
  exact SS
 have he:BG (run n) [E] s=some (.ok [v] s):=by
  rw [F9 hs,AJ he];rfl
 rw [e,AJ he]
 rfl
def Fr (n:Nat) (a:T) (s:S) (fl:Fl) (w:S):Prop:=∃r,Ih.f (run n) a s=some (.ok fl r)/\SE w r
def Vr (n:Nat) (a:T) (s:S) (v:V) (w:S):Prop:=∃r,Ih.v (run n) a s=some (.ok v r)/\SE w r
def Br (n:Nat) (a:T) (s:S) (b:Bool) (w:S):Prop:=∃r,Ih.b (run n) a s=some (.ok b r)/\SE w r
theorem Fr.of (h:Ih.f (run n) a s=some (.ok fl w)):Fr n a s fl w:=⟨w,h,.refl w⟩
theorem Vr.of (h:Ih.v (run n) a s=some (.ok v w)):Vr n a s v w:=⟨w,h,.refl w⟩
theorem Br.of (h:Ih.b (run n) a s=some (.ok b w)):Br n a s b w:=⟨w,h,.refl w⟩
theorem Fr.up (g:Fr n a s fl w) (h:n<=m) (x:SE s t):Fr m a t fl w:=by
 obtain ⟨r,e,z⟩:=g
 obtain ⟨r',e',z'⟩:=KA h x e
 exact ⟨r',e',z.trans z'⟩
theorem Vr.up (g:Vr n a s v w) (h:n<=m) (x:SE s t):Vr m a t v w:=by
 obtain ⟨r,e,z⟩:=g
 obtain ⟨r',e',z'⟩:=Wd h x e
 exact ⟨r',e',z.trans z'⟩
theorem Br.up (g:Br n a s b w) (h:n<=m) (x:SE s t):Br m a t b w:=by
 obtain ⟨r,e,z⟩:=g
 obtain ⟨r',e',z'⟩:=wu h x e
 exact ⟨r',e',z.trans z'⟩
theorem Fr.we (g:Fr n a s fl w) (x:SE w1 w):Fr n a s fl w1:=let ⟨r,e,z⟩:=g;⟨r,e,x.trans z⟩
theorem Vr.we (g:Vr n a s v w) (x:SE w1 w):Vr n a s v w1:=let ⟨r,e,z⟩:=g;⟨r,e,x.trans z⟩
theorem Fr.nil:Fr 1 (.exs []) s .next s:=.of rfl
theorem Fr.exs {x:Stmt} {r:List Stmt} (g:Fr n (.ex x) s .next w1) (g':Fr m (.exs r) w1 fl w) (h1:n<=N) (h2:m<=N):Fr (N+1) (.exs (x::r)) s fl w:=by
 obtain ⟨r1,e1,z1⟩:=g.up h1 (.refl s)
 obtain ⟨r2,e2,z2⟩:=g'.up h2 z1
 exact ⟨r2,by rw [OT e1];exact e2,z2⟩
theorem Fr.FJ {x:Stmt} {r:List Stmt} (g:Fr n (.ex x) s fl w) (hf:fl≠.next):Fr (n+1) (.exs (x::r)) s fl w:=by
 obtain ⟨r1,e1,z1⟩:=g
 refine ⟨r1,?_,z1⟩
 rw [Av,JM,AJ e1]
 induction fl using Fl.casesOn <;> first | rfl | exact (hf rfl).elim
theorem Fr.app (g:Fr n (.exs xs) s .next w1) (g':Fr m (.exs ys) w1 fl w) (h1:n<=N) (h2:m+xs.length<=N):Fr N (.exs (xs++ys)) s fl w:=by
 obtain ⟨r,e,z⟩:=g'
 obtain ⟨o,e',z'⟩:=Go.seq g e N h1 h2
 exact ⟨o,e',z.trans z'⟩
theorem Fr.ite {x y:List Stmt} (g:Br n (.ts c) s b w1) (g':Fr m (.exs (if b then x else y)) w1 fl w) (h1:n<=N) (h2:m<=N):Fr (N+1) (.ex (.If c x y p)) s fl w:=by
 obtain ⟨r1,e1,z1⟩:=g.up h1 (.refl s)
 obtain ⟨r2,e2,z2⟩:=g'.up h2 z1
 refine ⟨r2,?_,z2⟩
 rw [Av,OQ,AJ e1]
 induction b using bc <;> exact e2
theorem Fr.KC {x y:List Stmt} (g:Fr n (.wh c x y) s fl w):Fr (n+1) (.ex (.While c x y p)) s fl w:=by
 obtain ⟨r,e,z⟩:=g
 exact ⟨r,by rw [Av,SW];exact e,z⟩
theorem Fr.LY {x y:List Stmt} (g:Br n (.ts c) s true w1) (hf:f1 = .next\/f1 = .cont) (g1:Fr m (.exs x) w1 f1 w2) (g2:Fr k (.wh c x y) w2 fl w) (h1:n<=N) (h2:m<=N) (h3:k<=N):Fr (N+1) (.wh c x y) s fl w:=by
 obtain ⟨r1,e1,z1⟩:=g.up h1 (.refl s)
 obtain ⟨r2,e2,z2⟩:=g1.up h2 z1
 obtain ⟨r3,e3,z3⟩:=g2.up h3 z2
 refine ⟨r3,?_,z3⟩
 rw [Av,L3,AJ e1,ak rfl,AJ e2]
 rcases hf with rfl | rfl <;> exact e3
theorem Fr.Qy {x y:List Stmt} (g:Br n (.ts c) s true w1) (g1:Fr m (.exs x) w1 f1 w) (hf:f1 = .brk/\fl = .next\/(∃v,f1 = .ret v)/\fl=f1) (h1:n<=N) (h2:m<=N):Fr (N+1) (.wh c x y) s fl w:=by
 obtain ⟨r1,e1,z1⟩:=g.up h1 (.refl s)
 obtain ⟨r2,e2,z2⟩:=g1.up h2 z1
 refine ⟨r2,?_,z2⟩
 rw [Av,L3,AJ e1,ak rfl,AJ e2]
 rcases hf with ⟨rfl,rfl⟩ | ⟨⟨v,rfl⟩,rfl⟩ <;> rfl
theorem Fr.Qz {x y:List Stmt} (g:Br n (.ts c) s false w1) (g1:Fr m (.exs y) w1 fl w) (h1:n<=N) (h2:m<=N):Fr (N+1) (.wh c x y) s fl w:=by
 obtain ⟨r1,e1,z1⟩:=g.up h1 (.refl s)
 obtain ⟨r2,e2,z2⟩:=g1.up h2 z1
 refine ⟨r2,?_,z2⟩
 rw [Av,L3,AJ e1,aj (by decide)]
 exact e2
theorem JE {r:List Expr}:DE ih (e::r)=AD (ih.b (.ts e)) fun c=>if c then DE ih r else AF false:=rfl
theorem JX {l:List V} (h:s.hp[i]? = some (.list l)):items (.ref i) s=some (.ok l s):=by
 show AD (A4 i) _ s=_
 unfold AD A4
 rw [h];rfl
noncomputable def pV (i:Nat):V:=.str (pc i)
noncomputable def P6:List V:=(List.range 6).map pV
def Ef:Stmt:=at_ (A0 196) 2
def ru (i:Nat):Stmt:=at_ (sA Ef) i
def qb:Sc:=(Aj 196).sc
noncomputable def CV (x:Int):Nat:=(Int.fdiv x 5).natAbs
noncomputable def E4 (q:Nat):List Nat:=if 0<q / 6 then [q % 6,q / 6 % 6] else [q % 6]
theorem bH (q:Nat):Int.fmod (q:Int) 6=((q % 6:Nat):Int):=by
 rw [Int.fmod_eq_emod_of_nonneg _ (by decide)];rfl
theorem Sf (q:Nat):Int.fdiv (q:Int) 6=((q / 6:Nat):Int):=by
 rw [Int.fdiv_eq_ediv_of_nonneg _ (by decide)];rfl
theorem oH (q:Nat):P6[q % 6]? = some (pV (q % 6)):=by
 have:q % 6<6:=Nat.mod_lt _ (by decide)
 unfold P6
 rw [List.getElem?_map,List.getElem?_range this]
 rfl
noncomputable abbrev Bj (x:Int) (q:Nat) (r:Loc):Loc:=("pieces",.ref 1)::("rules",.ref 2)::("x",.int x)::("fifth",.int q)::r
abbrev BP (E:Loc) (hp:List O):S:=⟨E,qb,1,0,hp⟩
theorem U3 (hE:E = .Subscript (e1 E) (e2 E) (eP E)) (hi:slice? (e2 E)=none) {x:Int} {r:Loc}
  (h1:Ih.v (run 4) (.ev (e1 E)) (BP (Bj x q r) hp)=some (.ok (.ref 1) (BP (Bj x q r) hp)))
  (h2:Ih.v (run 4) (.ev (e2 E)) (BP (Bj x q r) hp)=some (.ok (.int (Int.fmod q 6)) (BP (Bj x q r) hp))) (GD:hp[1]? = some (.list P6)) :
  Ih.v (run 5) (.ev E) (BP (Bj x q r) hp)=some (.ok (pV (q % 6)) (BP (Bj x q r) hp)):=by
 rw [hE,J3 hi h1 h2,bH]
 exact item_list GD (oH q)
theorem pg (x:Int) (hp:List O):Ih.f (run 8) (.ex (ru 0)) (BP [("pieces",.ref 1),("rules",.ref 2),("x",.int x)] hp)=some (.ok .next (BP (Bj x (CV x) []) hp)):=by kernel_rfl
def pq:Expr:=e1 (sE (ru 1))
theorem pn {x:Int} (GD:hp[1]? = some (.list P6)):Ih.f (run 7) (.ex (ru 1)) (BP (Bj x q []) hp)=some (.ok .next (BP (Bj x q [("row",.ref hp.length)]) (hp++[.list [pV (q % 6)]]))):=by
 have e:ru 1 = .Assign [.Name "row" (eP (sT (ru 1)))] (.List [pq] (eP (sE (ru 1)))) (sP (ru 1)):=by kernel_rfl
 rw [e]
 refine Ln (by rfl) (.inl (by kernel_rfl)) (lG (by kernel_rfl) (U3 (by kernel_rfl) (by kernel_rfl) (by kernel_rfl) (by kernel_rfl) GD))
def Cv:Stmt:=ru 2
def Mn:Expr:=e1 (sE Cv)
def Dd:Expr:=e2 (sE Cv)
theorem qH:Cv = .While (.BoolOp .And [Mn,Dd] (eP (sE Cv))) [at_ (sA Cv) 0,at_ (sA Cv) 1] [] (sP Cv):=by kernel_rfl
theorem qF (x:Int) (q:Nat) (r:Loc) (hp:List O):Ih.b (run 6) (.ts Mn) (BP (Bj x q r) hp)=some (.ok (decide (0<q / 6)) (BP (Bj x q r) hp)):=by
 have e:Ih.b (run 6) (.ts Mn) (BP (Bj x q r) hp)=some (.ok (decide (0<Int.fdiv q 6)) (BP (Bj x q r) hp)):=by kernel_rfl
 rw [e,Sf]
 have:decide ((0:Int)<((q / 6:Nat):Int))=decide (0<q / 6):=decide_eq_decide.mpr (by lia)
 rw [this]
theorem qG (x:Int) (q i:Nat) (l:List V) (hp:List O) (h:hp[i]? = some (.list l)):Ih.b (run 6) (.ts Dd) (BP (Bj x q [("row",.ref i)]) hp)=some (.ok (decide ((l.length:Int)<2)) (BP (Bj x q [("row",.ref i)]) hp)):=by
 have e:Dd = .Compare (.Call (e1 (e1 Dd)) [e2 (e1 Dd)] [] (eP (e1 Dd))) [.Lt] [e2 Dd] (eP Dd):=by kernel_rfl
 rw [e,Av,Qq,show behindInMarks .Lt (e2 Dd)=false from by kernel_rfl,aj (by decide)]
 have h1:Ih.v (run 5) (.ev (.Call (e1 (e1 Dd)) [e2 (e1 Dd)] [] (eP (e1 Dd)))) (BP (Bj x q [("row",.ref i)]) hp)=some (.ok (.int l.length) (BP (Bj x q [("row",.ref i)]) hp)):=by
  rw [Av,EP]
  rw [ak (show ([]:List Keyword).isEmpty=true from rfl),HU (by kernel_rfl)]
  have a1:Ih.v (run 4) (.ev (e1 (e1 Dd))) (BP (Bj x q [("row",.ref i)]) hp)=some (.ok (.bi "len") (BP (Bj x q [("row",.ref i)]) hp)):=by kernel_rfl
  have a2:BG (run 4) [e2 (e1 Dd)] (BP (Bj x q [("row",.ref i)]) hp)=some (.ok [.ref i] (BP (Bj x q [("row",.ref i)]) hp)):=by kernel_rfl
  rw [AJ a1,AJ a2]
  show AD (items (.ref i)) _ _=_
  rw [AJ (JX h)]
  rfl
 have h2:Ih.v (run 5) (.ev (e2 Dd)) (BP (Bj x q [("row",.ref i)]) hp)=some (.ok (.int 2) (BP (Bj x q [("row",.ref i)]) hp)):=by kernel_rfl
 rw [AJ h1,AJ h2]
 rfl
theorem qD (x:Int) (q:Nat) (r:Loc) (hp:List O):Ih.f (run 8) (.ex (at_ (sA Cv) 0)) (BP (Bj x q r) hp)=some (.ok .next (BP (Bj x (q / 6) r) hp)):=by
 have e:Ih.f (run 8) (.ex (at_ (sA Cv) 0)) (BP (Bj x q r) hp)=some (.ok .next (BP (("pieces",.ref 1)::("rules",.ref 2)::("x",.int x)::("fifth",.int (Int.fdiv q 6))::r) hp)):=by kernel_rfl
 rw [e,Sf]
theorem qE {x:Int} {l:List V} (GD:hp[1]? = some (.list P6)) (h:hp[i]? = some (.list l)) (hl:l.length<1000) (hi:1<=i) :
  Ih.f (run 7) (.ex (at_ (sA Cv) 1)) (BP (Bj x q [("row",.ref i)]) hp)=some (.ok .next (BP (Bj x q [("row",.ref i)]) (hp.set i (.list (l++[pV (q % 6)]))))):=by
 have e:at_ (sA Cv) 1 = .Expr (.Call (.Attribute (e1 (e1 (sE (at_ (sA Cv) 1)))) "append" (eP (e1 (sE (at_ (sA Cv) 1))))) [e2 (sE (at_ (sA Cv) 1))] [] (eP (sE (at_ (sA Cv) 1)))) (sP (at_ (sA Cv) 1)):=by kernel_rfl
 rw [e]
 exact Nj (n:=5) (by kernel_rfl) (by kernel_rfl) (by kernel_rfl) h (U3 (by kernel_rfl) (by kernel_rfl) (by kernel_rfl) (by kernel_rfl) GD) hl hi
theorem QJ {x:Int} {l:List V} (h:hp[i]? = some (.list l)):Ih.b (run 7) (.ts (.BoolOp .And [Mn,Dd] (eP (sE Cv)))) (BP (Bj x q [("row",.ref i)]) hp)=some (.ok (decide (0<q / 6)&&decide ((l.length:Int)<2)) (BP (Bj x q [("row",.ref i)]) hp)):=by
 rw [Av,NJ,JE,AJ (qF x q _ hp)]
 induction hq:decide (0<q / 6) using bc with
 |false=>rfl
 |true=>
  rw [ak rfl,JE,AJ (qG x q i l hp h)]
  cases decide ((l.length:Int)<2) <;> rfl
theorem qI {x:Int} (GD:hp[1]? = some (.list P6)) (hi:1<i) (h:hp[i]? = some (.list [v])) :
  ∃q',Fr 14 (.ex Cv) (BP (Bj x q [("row",.ref i)]) hp) .next (BP (Bj x q' [("row",.ref i)]) (if 0<q / 6 then hp.set i (.list [v,pV (q / 6 % 6)]) else hp)):=by
 rw [qH]
 have hlen:i<hp.length:=(List.getElem?_eq_some_iff.mp h).1
 by_cases hq:0<q / 6
 .refine ⟨q / 6,.KC ?_⟩
  rw [ak hq]
  have t1:=QJ (x:=x) (q:=q) h
  rw [show (decide (0<q / 6)&&decide ((([v]:List V).length:Int)<2))=true from by simp [hq]] at t1
  have h2:(hp.set i (.list ([v]++[pV (q / 6 % 6)])))[i]? = some (.list [v,pV (q / 6 % 6)]):=by rw [List.getElem?_set_self hlen];rfl
  have t2:=QJ (x:=x) (q:=q / 6) h2
  rw [show (decide (0<q / 6 / 6)&&decide ((([v,pV (q / 6 % 6)]:List V).length:Int)<2))=false from by simp] at t2
  exact .LY (.of t1) (.inl rfl) (.exs (.of (qD x q _ hp)) (.exs (.of (qE GD h (by simp) (by lia))) .nil (ao 7) (by lia)) (ao 8) (ao 8)) (.Qz (.of t2) .nil (ao 7) (by lia)) (by lia) (by lia:9<=12) (by lia)
 .refine ⟨q,.KC ?_⟩
  rw [aj hq]
  have t1:=QJ (x:=x) (q:=q) h
  rw [show (decide (0<q / 6)&&decide ((([v]:List V).length:Int)<2))=false from by simp [hq]] at t1
  exact .Qz (.of t1) .nil (by lia:7<=12) (by lia)
def qC:Expr:=e1 (e1 (sE (ru 3)))
def qB:Expr:=e2 (sE (ru 3))
theorem qA {x:Int} (h2:hp[2]? = some (.list R)) (hR:R.length<1000):Ih.f (run 9) (.ex (ru 3)) (BP (Bj x q [("row",.ref i)]) hp)=some (.ok .next (BP (Bj x q [("row",.ref i)]) (hp.set 2 (.list (R++[.tup [.int (Int.fmod x 5),.ref i]]))))):=by
 have e:ru 3 = .Expr (.Call (.Attribute qC "append" (eP (e1 (sE (ru 3))))) [qB] [] (eP (sE (ru 3)))) (sP (ru 3)):=by kernel_rfl
 rw [e]
 exact Nj (n:=7) (by kernel_rfl) (by kernel_rfl) (by kernel_rfl) h2 (by kernel_rfl) hR (show 1<=2 by decide)
theorem qJ {x:Int} (GD:hp[1]? = some (.list P6)) (h2:hp[2]? = some (.list R)) (hR:R.length<1000) (f:S) (hf:f=BP [("pieces",.ref 1),("rules",.ref 2)] hp) :
  Fr 20 (.exs (sA Ef)) (BP [("pieces",.ref 1),("rules",.ref 2),("x",.int x)] hp) .next
   (BP [("pieces",.ref 1),("rules",.ref 2)] (hp.set 2 (.list (R++[.tup [.int (Int.fmod x 5),.ref hp.length]]))++[.list ((E4 (CV x)).map pV)])):=by
 have e:sA Ef=[ru 0,ru 1,Cv,ru 3]:=by kernel_rfl
 have l2:2<hp.length:=(List.getElem?_eq_some_iff.mp h2).1
 rw [e]
 have a1:(hp++[O.list [pV (CV x % 6)]])[1]? = some (.list P6):=by rw [bw (by lia)];exact GD
 have ai:(hp++[O.list [pV (CV x % 6)]])[hp.length]? = some (.list [pV (CV x % 6)]):=by simp
 obtain ⟨q',g⟩:=qI (x:=x) (q:=CV x) (i:=hp.length) a1 (by lia) ai
 have e2:(if 0<CV x / 6 then (hp++[O.list [pV (CV x % 6)]]).set hp.length (.list [pV (CV x % 6),pV (CV x / 6 % 6)]) else hp++[O.list [pV (CV x % 6)]])=hp++[O.list ((E4 (CV x)).map pV)]:=by
  unfold E4
  split
  .rw [List.set_append_right _ _ (ao _)];simp
  .rfl
 rw [e2] at g
 have eV:(hp++[O.list ((E4 (CV x)).map pV)])[2]? = some (.list R):=by rw [bw l2];exact h2
 have g3:=qA (x:=x) (q:=q') (i:=hp.length) eV hR
 rw [List.set_append_left _ _ l2] at g3
 refine .exs (.of (pg x hp)) (.exs (.of (pn GD)) (.exs g (.exs (.of g3) (Fr.nil.we ?_) (ao 9) (by lia)) (ao 14) (by lia)) (by lia) (ao 15)) (by lia) (by lia:16<=19)
 exact ⟨rfl,rfl,ao _,rfl,M9 (by intro p hp;simp only [List.mem_cons,List.not_mem_nil,or_false] at hp;rcases hp with rfl | rfl <;> rfl)⟩
theorem Me (h1:(CZ f fns).isSome=true) (hb:Bh (Aj f) as=some l) (hp:Bf f=true) (g:Fr n (.exs (Aj f).body) {s with AA:=l,sc:=(Aj f).sc,lo:=s.hp.length} fl w) (hz:fz s.hp.length w.hp 4 (ET fl)=some v):Vr (n+1) (.call f as) s v s:=by
 obtain ⟨r,e,z⟩:=g
 refine ⟨s,?_,.refl s⟩
 obtain ⟨fn,hf⟩:=Option.isSome_iff_exists.mp h1
 have hd:Aj f=fn:=by unfold Aj;rw [hf];rfl
 rw [hd] at hb e
 rw [Av,IU,hf]
 dsimp only
 rw [hb]
 dsimp only
 unfold B0 Ff
 rw [hp,ak rfl,e]
 dsimp only
 rw [ak rfl,z.hp,hz]
theorem Ht (h1:(CZ f fns).isSome=true) (hb:Bh (Aj f) as=some l) (hp:Bf f=false) (g:Fr n (.exs (Aj f).body) {s with AA:=l,sc:=(Aj f).sc} fl w) (hl:w.lo<=s.lo) (hh:w.hd=s.hd):Vr (n+1) (.call f as) s (ET fl) {s with hp:=w.hp}:=by
 obtain ⟨r,e,z⟩:=g
 obtain ⟨fn,hf⟩:=Option.isSome_iff_exists.mp h1
 have hd:Aj f=fn:=by unfold Aj;rw [hf];rfl
 rw [hd] at hb e
 refine ⟨{r with AA:=s.AA,sc:=s.sc},?_,rfl,z.hd.trans hh,bg z.lo hl,z.hp,fun _ _ e=>e⟩
 rw [Av,IU,hf]
 dsimp only
 rw [hb]
 dsimp only
 unfold B0 Ff
 rw [hp,aj (by decide),e]
 rfl
theorem Ia {x:Str} {q:Pos} (e:σ->S) {as:List α}
  (hI:Vr n (.ev I) s0 Ai w0) (hw:SE (e c0) w0) (Ct:∀r c,Inv r c->Bg Ai (e c)=some (.ok (kd,as.map vV) (e c))) (Ez:∀c,(e c).sc.lookup x=some .local\/(e c).sc.lookup x=some .cell)
  (hb:∀a r c,a∈as->Inv (a::r) c->(∃fl,(fl = .next\/fl = .cont)/\Fr m (.exs body) {e c with AA:=Ao x (vV a) (e c).AA} fl (e (stp c a)))/\Inv r (stp c a)) (h0:Inv as c0) (h1:n<=N) (h2:m<=N) (hN:0<N) :
  Fr (N+1) (.ex (.For (.Name x p) I body [] q)) s0 .next (e (as.foldl stp c0))/\Inv [] (as.foldl stp c0):=by
 obtain ⟨r1,e1,z1⟩:=(hI.up h1 (.refl _)).we hw
 obtain ⟨r2,e2,z2,i2⟩:=bO (N:=N) (x:=x) (p:=p) (body:=body) (orelse:=[]) e Ct Ez (fun a r c ha hi=>by
  obtain ⟨⟨fl,hf,g⟩,i⟩:=hb a r c ha hi
  exact ⟨⟨fl,hf,g.up h2 (.refl _)⟩,i⟩) as [] c0 r1 rfl h0 z1
 refine ⟨⟨r2,?_,z2⟩,i2⟩
 rw [Av,Kd,AJ e1,AJ (GP z1 (Ct _ _ h0))]
 dsimp only
 rw [bu,e2]
 obtain ⟨N,rfl⟩:=Nat.exists_eq_add_one_of_ne_zero (Nat.ne_of_gt hN)
 rw [Av,JN];rfl
def Eg (x:Int):V:=.tup [.int (Int.fmod x 5),.lst ((E4 (CV x)).map pV)]
def IZ:List V:=[.tup [.int 1,C9 [0]],.tup [.int 3,C9 [0,3]],.tup [.int 4,C9 [2,1]]]
noncomputable def Nd (hp:List O):List V:=match hp[2]? with | some (O.list R)=>R | _=>[]
def De (hp:List O) (x:Int):List O:=hp.set 2 (.list (Nd hp++[.tup [.int (Int.fmod x 5),.ref hp.length]]))++[.list ((E4 (CV x)).map pV)]
def GF:List O:=[.tab,.list P6,.list IZ]
theorem Ju (q:Nat):(∃a,E4 q=[a])\/∃a b,E4 q=[a,b]:=by
 unfold E4
 split
 .exact .inr ⟨_,_,rfl⟩
 .exact .inl ⟨_,rfl⟩
theorem qN (xs:List Int) (h:xs.length<=3):Fr 40 (.exs (A0 196)) (BP [("numbers",.lst (xs.map .int))] [.tab]) (.ret (.ref 2)) (BP [("pieces",.ref 1),("rules",.ref 2)] (xs.foldl De GF)):=by
 have e:A0 196=[at_ (A0 196) 0,at_ (A0 196) 1]++[Ef,at_ (A0 196) 3]:=by kernel_rfl
 have eF:Ef = .For (.Name "x" (eP (sT Ef))) (sE Ef) (sA Ef) [] (sP Ef):=by kernel_rfl
 have g0:Fr 12 (.exs [at_ (A0 196) 0,at_ (A0 196) 1]) (BP [("numbers",.lst (xs.map .int))] [.tab]) .next (BP [("numbers",.lst (xs.map .int)),("pieces",.ref 1),("rules",.ref 2)] GF):=.of (by kernel_rfl)
 obtain ⟨gF,_⟩:=Ia (n:=4) (m:=20) (N:=21) (x:="x") (p:=eP (sT Ef)) (q:=sP Ef) (I:=sE Ef) (body:=sA Ef) (fun hp:List O=>BP [("pieces",.ref 1),("rules",.ref 2)] hp) (Ai:=.lst (xs.map .int)) (kd:=false) (as:=xs) (vV:=V.int) (stp:=De)
  (Inv:=fun r hp=>hp[1]? = some (.list P6)/\∃R,hp[2]? = some (.list R)/\R.length+r.length<1000) (c0:=GF) (s0:=BP [("numbers",.lst (xs.map .int)),("pieces",.ref 1),("rules",.ref 2)] GF) (w0:=BP [("numbers",.lst (xs.map .int)),("pieces",.ref 1),("rules",.ref 2)] GF)
  (.of (by kernel_rfl)) ⟨rfl,rfl,ao _,rfl,M9 (by intro p hp;simp only [List.mem_cons,List.not_mem_nil,or_false] at hp;rcases hp with rfl | rfl <;> rfl)⟩ (fun _ _ _=>rfl) (fun _=>.inl (by kernel_rfl)) (fun a r hp _ ⟨i1,R,i2,i3⟩=>by
   have l2:2<hp.length:=(List.getElem?_eq_some_iff.mp i2).1
   have eR:Nd hp=R:=by unfold Nd;rw [i2]
   refine ⟨⟨.next,.inl rfl,?_⟩,?_,?_⟩
   .have g:=qJ (x:=a) i1 i2 (by lia) _ rfl
    unfold De
    rw [eR]
    exact g
   .unfold De
    rw [bw (by simp;lia),List.getElem?_set_ne (by decide)]
    exact i1
   .refine ⟨_,by unfold De;rw [bw (by simp;lia),List.getElem?_set_self l2],?_⟩
    rw [eR]
    simp at i3 ⊢
    lia) ⟨rfl,IZ,rfl,by show 3+xs.length<1000;lia⟩ (by lia) (by lia) (by lia)
 rw [e]
 rw [<-eF] at gF
 have gr:Fr 10 (.exs [at_ (A0 196) 3]) (BP [("pieces",.ref 1),("rules",.ref 2)] (xs.foldl De GF)) (.ret (.ref 2)) (BP [("pieces",.ref 1),("rules",.ref 2)] (xs.foldl De GF)):=.of (by kernel_rfl)
 exact g0.app (gF.exs gr (ao 22) (by lia)) (by lia) (by simp)
theorem qP (xs:List Int) (h:xs.length<=3) (E:Loc) (sc:Sc):Vr 41 (.call 196 [.lst (xs.map .int)]) ⟨E,sc,1,0,[.tab]⟩ (.lst (IZ++xs.map Eg)) ⟨E,sc,1,0,[.tab]⟩:=by
 refine Me (by kernel_rfl) (l:=[("numbers",.lst (xs.map .int))]) ?_ (by kernel_rfl) (qN xs h) ?_
 .have e:Bh (Aj 196) [.lst (xs.map .int)]=some ([("numbers",.lst (xs.map .int))]:Loc):=by kernel_rfl
  exact e
 .match xs with
  | []=>kernel_rfl
  | [x]=>
   show fz 1 (De GF x) 4 (.ref 2)=some (.lst (IZ++[Eg x]))
   unfold De Eg
   rcases Ju (CV x) with ⟨a,h1⟩ | ⟨a,b,h1⟩ <;> rw [h1] <;> kernel_rfl
  | [x,y]=>
   show fz 1 (De (De GF x) y) 4 (.ref 2)=some (.lst (IZ++[Eg x,Eg y]))
   unfold De Eg
   rcases Ju (CV x) with ⟨a,h1⟩ | ⟨a,b,h1⟩ <;> rcases Ju (CV y) with ⟨c,h2⟩ | ⟨c,d,h2⟩ <;> rw [h1,h2] <;> kernel_rfl
  | [x,y,z]=>
   show fz 1 (De (De (De GF x) y) z) 4 (.ref 2)=some (.lst (IZ++[Eg x,Eg y,Eg z]))
   unfold De Eg
   rcases Ju (CV x) with ⟨a,h1⟩ | ⟨a,b,h1⟩ <;> rcases Ju (CV y) with ⟨c,h2⟩ | ⟨c,d,h2⟩ <;> rcases Ju (CV z) with ⟨g,h3⟩ | ⟨g,j,h3⟩ <;> rw [h1,h2,h3] <;> kernel_rfl
  |_::_::_::_::_=>simp at h
noncomputable def rv (r:Nat × List Nat):V:=.tup [.int r.1,C9 r.2]
noncomputable def fixed:List (Nat × List Nat):=[(1,[0]),(3,[0,3]),(4,[2,1])]
def Mq (x:Int):Nat × List Nat:=((Int.fmod x 5).toNat,E4 (CV x))
def Hy (xs:List Int):List (Nat × List Nat):=fixed++xs.map Mq
theorem qM (x:Int):Eg x=rv (Mq x):=by
 unfold Eg rv Mq C9
 have:(((Int.fmod x 5).toNat:Nat):Int)=Int.fmod x 5:=Int.toNat_of_nonneg (Int.fmod_nonneg_of_pos x (by decide))
 rw [this]
 rfl
theorem rules_eq (xs:List Int):IZ++xs.map Eg=(Hy xs).map rv:=by
 unfold Hy
 rw [List.map_append,List.map_map]
 congr 1
 exact List.map_congr_left fun x _=>qM x
theorem pQ (q:Nat):E4 q∈rows:=by
 unfold E4 rows
 have h1:q % 6<6:=Nat.mod_lt _ (by decide)
 have h2:q / 6 % 6<6:=Nat.mod_lt _ (by decide)
 split
 .refine List.mem_append_right _ (List.mem_map.mpr ⟨q % 6+6*(q / 6 % 6),List.mem_range.mpr (by lia),?_⟩)
  rw [show (q % 6+6*(q / 6 % 6)) % 6=q % 6 by lia,show (q % 6+6*(q / 6 % 6)) / 6=q / 6 % 6 by lia]
 .exact List.mem_append_left _ (List.mem_map.mpr ⟨q % 6,List.mem_range.mpr h1,rfl⟩)
theorem qO (xs:List Int):∀r∈Hy xs,r.1<5/\r.2∈rows:=by
 intro r hr
 rcases List.mem_append.mp hr with h | h
 .have:∀r∈fixed,r.1<5/\r.2∈rows:=by decide
  exact this r h
 .obtain ⟨x,_,rfl⟩:=List.mem_map.mp h
  refine ⟨?_,pQ _⟩
  have h1:=Int.fmod_nonneg_of_pos x (show (0:Int)<5 by decide)
  have h2:=Int.fmod_lt_of_pos x (show (0:Int)<5 by decide)
  unfold Mq
  dsimp only
  lia
noncomputable def Qh:Loc->Loc->Prop
 | [],_=>True
 |p::r,E=>AN p.1 E=some p.2/\Qh r E
theorem WG:∀{E' E:Loc},Qh E' E->∀p∈E',AN p.1 E=some p.2:=by
 intro W7
 induction W7 with
 |nil=>
  intro _ _ p h
  cases h
 |cons q r AU=>
  intro E h p hp
  rcases List.mem_cons.mp hp with rfl | hp
  .exact h.1
  .exact AU h.2 p hp
theorem CG {E:Loc} {sc:Sc} {lo:Nat} (h:Qh E' E):SE ⟨E',sc,lo,hd,hp⟩ ⟨E,sc,lo,hd,hp⟩:=⟨rfl,rfl,ao _,rfl,M9 (WG h)⟩
theorem cC {f:Expr} {as:List Expr} {a:Nat} {l:List V} (hE:E = .Call f as [] p) (hf:GI f=false) (h1:Ih.v (run n) (.ev f) s=some (.ok (.glob a) s)) (hc:∀l,FG (run n) (.glob a) l=Ih.v (run n) (.call a l))
  (h2:BG (run n) as s=some (.ok l s)) (g:Vr m (.call a l) s v w) (hm:m<=n):Vr (n+1) (.ev E) s v w:=by
 obtain ⟨r,e,z⟩:=g.up hm (.refl s)
 refine ⟨r,?_,z⟩
 rw [hE,Av,EP]
 show Dy (run n) f as p s=_
 rw [HU hf,AJ h1,AJ h2,hc]
 exact e
theorem Ep {T:Expr} {x:V} (h:Ci (run N) x T e0=some (.ok () w)) (s:S) (z:SE e0 s):∃s',Ci (run N) x T s=some (.ok () s')/\SE w s':=by
 have:=Mw (EH (L:=0) (k:=0) (X:=[]) (ao N)) (v:=x) (t:=T)
 rw [V.BW] at this
 exact DN (fun _=>rfl) this z h
theorem Io {sc:Scope} {l:List V} (h:∃s',comp (run n) Am target iter Ak asy sc s=some (.ok l s')/\SE s s') (hl:l.length<=1000):Vr (n+1) (.ev (.ListComp Am [⟨target,iter,Ak,asy⟩] sc p)) s (.lst l) s:=by
 obtain ⟨r,e,z⟩:=h
 refine ⟨r,?_,z⟩
 rw [Av,SP,AJ e]
 unfold Bb
 rw [ak hl];rfl
theorem MT {sc:Scope} {l:List V} (h:∃s',comp (run n) Am target iter Ak asy sc s=some (.ok l s')/\SE s s') (hl:l.length<=1000):Vr (n+1) (.evm (.ListComp Am [⟨target,iter,Ak,asy⟩] sc p)) s (.ref s.hp.length) {s with hp:=s.hp++[.list l]}:=by
 obtain ⟨r,e,z⟩:=h
 refine ⟨{r with hp:=r.hp++[.list l]},?_,z.sc,z.hd,z.lo,by rw [z.hp],z.AA⟩
 rw [Av,OP,AJ e]
 unfold newL
 rw [ak hl,<-z.hp];rfl
theorem Br.Xo {a:Expr} (g1:Br n (.ts a) s b1 w1) (g2:b1=true->Br m (.ts c) w1 b2 w) (hw:b1=false->SE w w1) (h1:n<=N) (h2:m<=N):Br (N+1) (.ts (.BoolOp .And [a,c] p)) s (b1&&b2) w:=by
 obtain ⟨r1,e1,z1⟩:=g1.up h1 (.refl s)
 induction b1 using bc with
 |false=>
  refine ⟨r1,?_,(hw rfl).trans z1⟩
  rw [Av,NJ,JE,AJ e1];rfl
 |true=>
  obtain ⟨r2,e2,z2⟩:=(g2 rfl).up h2 z1
  refine ⟨r2,?_,z2⟩
  rw [Av,NJ,JE,AJ e1,ak rfl,JE,AJ e2]
  induction b2 using bc <;> rfl
theorem IJ (g:Br n (.ts e) s b w):∃r,DE (run n) [e] s=some (.ok b r)/\SE w r:=by
 obtain ⟨r,e',z⟩:=g
 refine ⟨r,?_,z⟩
 rw [JE,AJ e']
 induction b using bc <;> rfl
theorem Br.plain (hp:Jo e=true) (g:Vr n (.ev e) s (.bool b) w):Br (n+1) (.ts e) s b w:=by
 obtain ⟨r,e',z⟩:=g
 exact ⟨r,by rw [Av,WX hp,AJ e'];rfl,z⟩
noncomputable def kn:List V:=(List.range 5).map nV
def lv (i:Nat):Stmt:=at_ (A0 211) i
def C0:Expr:=sE (lv 0)
def C1:Expr:=e1 C0
def JH:Expr:=(Il C1).headD default
def C2:Expr:=e1 JH
noncomputable def FI:Expr:=(Il C2).headD default
def Im (e:Expr):Pos:=eP e
noncomputable def R0 (rs:List (Nat × List Nat)):V:=.lst (rs.map rv)
noncomputable def hp2:List O:=[.tab,.list kn]
noncomputable abbrev lS (E:Loc) (sc:Sc):S:=⟨E,sc,2,0,hp2⟩
noncomputable abbrev E2 (rs:List (Nat × List Nat)) (o:Nat) (κ:Nat):Loc:=[("files",.ref 1),("rules",R0 rs),("own",.int o),("k",.int κ)]
theorem Wr:C2 = .ListComp (e1 C2) [⟨C7 C2,e2 C2,[FI],0⟩] (B4 C2) (Im C2):=by kernel_rfl
theorem Wq:C1 = .ListComp (e1 C1) [⟨C7 C1,e2 C1,[JH],0⟩] (B4 C1) (Im C1):=by kernel_rfl
theorem Wo:C0 = .ListComp C1 [⟨C7 C0,e2 C0,[],0⟩] (B4 C0) (Im C0):=by kernel_rfl
theorem bE {r:List Nat} (hr:r∈rows) (C6:κ<5) (E:Loc) (sc:Sc) (lo:Nat) (hp:List O):Vr 27 (.call 206 [C9 r,nV κ]) ⟨E,sc,lo,0,hp⟩ (.bool (D4 r κ)) ⟨E,sc,lo,0,hp⟩:=by
 exact .of (List.map_inj_left.mp (bF E sc lo hp) (r,κ) (lz hr C6))
noncomputable abbrev E3 (rs:List (Nat × List Nat)) (o κ:Nat) (r:Nat × List Nat):Loc:=[("files",.ref 1),("rules",R0 rs),("own",.int o),("k",.int κ),("which",.int r.1),("row",C9 r.2)]
def Mr:Sc:=(B4 C2).names
def Jv:Sc:=(B4 C1).names
def QM:Sc:=(B4 C0).names
theorem Yb (rs:List (Nat × List Nat)) (o κ:Nat) (C6:κ<5) (r:Nat × List Nat) (hr:r.2∈rows):Br 30 (.ts FI) (lS (E3 rs o κ r) Mr) (r.1==o&&D4 r.2 κ) (lS (E3 rs o κ r) Mr):=by
 have e:FI = .BoolOp .And [e1 FI,e2 FI] (eP FI):=by kernel_rfl
 rw [e]
 have ea:((r.1:Int)==(o:Int))=(r.1==o):=by
  induction h:(r.1==o) using bc with
  |true=>rw [eq_of_beq h];simp
  |false=>
   have:r.1≠o:=fun q=>by rw [q] at h;simp at h
   exact beq_false_of_ne fun q=>this (Int.ofNat.inj q)
 refine .Xo (n:=8) (m:=29) (N:=29) (w1:=lS (E3 rs o κ r) Mr) ?_ (fun _=>?_) (fun _=>.refl _) (by lia) (by lia)
 .rw [<-ea]
  exact .of (by kernel_rfl)
 .refine .plain (by kernel_rfl) (cC (n:=27) (E:=e2 FI) (f:=e1 (e2 FI)) (as:=[e2 (e2 FI),(match e2 FI with | .Call _ (_::b::_) _ _=>b | e=>e)]) (p:=eP (e2 FI)) (a:=206) (l:=[C9 r.2,nV κ]) (by kernel_rfl) (by kernel_rfl) (by kernel_rfl) (fun l=>rfl) ?_ (bE hr C6 _ _ _ _) (by lia))
  refine five κ C6 ?_ ?_ ?_ ?_ ?_ <;> kernel_rfl
theorem YZ (rs:List (Nat × List Nat)) (hg:∀r∈rs,r.1<5/\r.2∈rows) (o κ:Nat) (C6:κ<5) (hl:rs.length<=1000) :
  Vr 31 (.ev C2) (lS (E2 rs o κ) Jv) (.lst ((rs.filter fun r=>r.1==o&&D4 r.2 κ).map fun _=>.int 1)) (lS (E2 rs o κ) Jv):=by
 rw [Wr]
 refine Io ?_ (by simp;exact bg (bx _ _) hl)
 exact FH (N:=30) (Ai:=R0 rs) (kd:=false) (as:=rs) (vV:=rv) (ea:=fun r=>lS (E3 rs o κ r) Mr) (pr:=fun r=>r.1==o&&D4 r.2 κ) (g:=fun _=>.int 1)
  (by kernel_rfl) (by kernel_rfl) (fun E DM=>rfl) (fun r _=>CG (E':=E2 rs o κ) ⟨rfl,rfl,rfl,rfl,trivial⟩)
  (fun r _=>Ep (by kernel_rfl)) (fun r hr=>IJ (Yb rs o κ C6 r (hg r hr).2)) (fun r _ _=>⟨_,by kernel_rfl,.refl _⟩)
theorem Ru {op:CmpOp} {a c:V} {x:S} (h:cmp op a c w=some (.ok b w')) (z:SE w x):∃x',cmp op a c x=some (.ok b x')/\SE w' x':=by
 have:=QW (L:=0) (k:=0) (X:=[]) (op:=op) (a:=a) (b:=c)
 rw [V.BW,V.BW] at this
 exact DN (fun _=>rfl) this z h
theorem YH {a c:V} {x:S} (h:DF op a c w=some (.ok v w')) (z:SE w x):∃x',DF op a c x=some (.ok v x')/\SE w' x':=by
 have:=Vd (L:=0) (k:=0) (X:=[]) (op:=op) (a:=a) (b:=c)
 rw [V.BW,V.BW] at this
 exact DN (V.BW 0) this z h
theorem YS {id:String} {x:S} (h:builtin id as w=some (.ok v w')) (z:SE w x):∃x',builtin id as x=some (.ok v x')/\SE w' x':=by
 have:=Ve (L:=0) (k:=0) (X:=[]) (id:=id) (as:=as)
 rw [V.GO] at this
 exact DN (V.BW 0) this z h
theorem Br.cmp {l r:Expr} {op:CmpOp} {p:Pos} {x y:V} {c:Bool} {w':S} (hm:behindInMarks op r=false) (g1:Vr n (.ev l) s x w1) (g2:Vr m (.ev r) w1 y w) (hc:Mine.cmp op x y w=some (.ok c w')) (h1:n<=N) (h2:m<=N):Br (N+1) (.ts (.Compare l [op] [r] p)) s c w':=by
 obtain ⟨r1,e1,z1⟩:=g1.up h1 (.refl s)
 obtain ⟨r2,e2,z2⟩:=g2.up h2 z1
 obtain ⟨r3,e3,z3⟩:=Ru hc z2
 exact ⟨r3,by rw [Av,Qq,hm,aj (by decide),AJ e1,AJ e2,e3],z3⟩
theorem Vr.cmp {l r:Expr} {op:CmpOp} {p:Pos} {x y:V} {c:Bool} {w':S} (hm:behindInMarks op r=false) (g1:Vr n (.ev l) s x w1) (g2:Vr m (.ev r) w1 y w) (hc:Mine.cmp op x y w=some (.ok c w')) (h1:n<=N) (h2:m<=N):Vr (N+1) (.ev (.Compare l [op] [r] p)) s (.bool c) w':=by
 obtain ⟨r1,e1,z1⟩:=g1.up h1 (.refl s)
 obtain ⟨r2,e2,z2⟩:=g2.up h2 z1
 obtain ⟨r3,e3,z3⟩:=Ru hc z2
 exact ⟨r3,by rw [Av,SO,hm,aj (by decide),AJ e1,AJ e2,AJ e3];rfl,z3⟩
theorem Vr.DF {l r:Expr} {op:Operator} {p:Pos} {x y:V} {c:V} {w':S} (g1:Vr n (.ev l) s x w1) (g2:Vr m (.ev r) w1 y w) (hc:Mine.DF op x y w=some (.ok c w')) (h1:n<=N) (h2:m<=N):Vr (N+1) (.ev (.BinOp l op r p)) s c w':=by
 obtain ⟨r1,e1,z1⟩:=g1.up h1 (.refl s)
 obtain ⟨r2,e2,z2⟩:=g2.up h2 z1
 obtain ⟨r3,e3,z3⟩:=YH hc z2
 exact ⟨r3,by rw [Av,SK,AJ e1,AJ e2,e3],z3⟩
theorem Vr.IP {f:Expr} {id:String} {x c:V} (hf:GI f=false) (hs:Bk e=false) (g1:Vr n (.ev f) s (.bi id) w1) (g2:Vr m (.ev e) w1 x w) (hc:builtin id [x] w=some (.ok c w')) (h1:n<=N) (h2:m<=N):Vr (N+1) (.ev (.Call f [e] [] p)) s c w':=by
 obtain ⟨r1,e1,z1⟩:=g1.up h1 (.refl s)
 obtain ⟨r2,e2,z2⟩:=g2.up h2 z1
 obtain ⟨r3,e3,z3⟩:=YS hc z2
 refine ⟨r3,?_,z3⟩
 rw [Av,EP]
 show Dy (run N) f [e] p s=_
 have he:BG (run N) [e] r1=some (.ok [x] r2):=by rw [F9 hs,AJ e2];rfl
 rw [HU hf,AJ e1,AJ he]
 exact e3
def NF (rs:List (Nat × List Nat)) (o κ:Nat):Bool:=rs.any fun r=>r.1==o&&D4 r.2 κ
noncomputable def Cf (rs:List (Nat × List Nat)) (o:Nat):List Nat:=(List.range 5).filter (NF rs o)
theorem ne_nil (l:List V) (w:S):cmp .NotEq (.lst l) (.lst []) w=some (.ok (!l.isEmpty) w):=by
 induction l using lc <;> rfl
theorem any_filter (rs:List (Nat × List Nat)) (p:Nat × List Nat->Bool):(!((rs.filter p).map fun _=>V.int 1).isEmpty)=rs.any p:=by
 induction rs with
 |nil=>rfl
 |cons r l ih=>
  by_cases h:p r=true
  .rw [List.filter_cons_of_pos h,List.any_cons,h];rfl
  .rw [List.filter_cons_of_neg h,List.any_cons,ih]
   simp [h]
theorem YY (rs:List (Nat × List Nat)) (hg:∀r∈rs,r.1<5/\r.2∈rows) (o κ:Nat) (C6:κ<5) (hl:rs.length<=1000):Br 32 (.ts JH) (lS (E2 rs o κ) Jv) (NF rs o κ) (lS (E2 rs o κ) Jv):=by
 have e:JH = .Compare C2 [.NotEq] [e2 JH] (eP JH):=by kernel_rfl
 rw [e]
 refine .cmp (N:=31) (n:=31) (m:=4) (w:=lS (E2 rs o κ) Jv) (y:=.lst []) (by kernel_rfl) (YZ rs hg o κ C6 hl) (.of (by kernel_rfl)) ?_ (by lia) (by lia)
 rw [ne_nil,any_filter]
 rfl
noncomputable abbrev E1 (rs:List (Nat × List Nat)) (o:Nat):Loc:=[("files",.ref 1),("rules",R0 rs),("own",.int o)]
theorem YX (rs:List (Nat × List Nat)) (hg:∀r∈rs,r.1<5/\r.2∈rows) (o:Nat) (hl:rs.length<=1000):Vr 33 (.ev C1) (lS (E1 rs o) QM) (.lst ((Cf rs o).map fun k=>.int (k:Nat))) (lS (E1 rs o) QM):=by
 rw [Wq]
 refine Io ?_ (by simp;exact bg (bx _ _) (by simp))
 exact FH (N:=32) (Ai:=.rng 5) (kd:=false) (as:=List.range 5) (vV:=fun k=>V.int (k:Nat)) (ea:=fun k=>lS (E2 rs o k) Jv) (pr:=NF rs o) (g:=fun k=>.int (k:Nat))
  (by kernel_rfl) (by kernel_rfl) (fun E DM=>rfl) (fun k _=>CG (E':=E1 rs o) ⟨rfl,rfl,rfl,trivial⟩)
  (fun k _=>Ep (by kernel_rfl)) (fun k hk=>IJ (YY rs hg o k (List.mem_range.mp hk) hl)) (fun k _ _=>⟨_,by kernel_rfl,.refl _⟩)
def wV (rs:List (Nat × List Nat)) (o:Nat):V:=.lst ((Cf rs o).map fun k=>.int (k:Nat))
def W5 (rs:List (Nat × List Nat)):List V:=(List.range 5).map (wV rs)
noncomputable abbrev EL (rs:List (Nat × List Nat)):Loc:=[("files",.ref 1),("rules",R0 rs)]
noncomputable def Ce:Sc:=(Aj 211).sc
theorem YV (rs:List (Nat × List Nat)) (hg:∀r∈rs,r.1<5/\r.2∈rows) (hl:rs.length<=1000):Vr 34 (.evm C0) (lS (EL rs) Ce) (.ref 2) ⟨EL rs,Ce,2,0,hp2++[.list (W5 rs)]⟩:=by
 rw [Wo]
 have h:∃s',comp (run 33) C1 (C7 C0) (e2 C0) [] 0 (B4 C0) (lS (EL rs) Ce)=some (.ok (((List.range 5).filter fun _=>true).map (wV rs)) s')/\SE (lS (EL rs) Ce) s':=
  FH (N:=33) (Ai:=.rng 5) (kd:=false) (as:=List.range 5) (vV:=fun k=>V.int (k:Nat)) (ea:=fun o=>lS (E1 rs o) QM) (pr:=fun _=>true) (g:=wV rs)
   (by kernel_rfl) (by kernel_rfl) (fun E DM=>rfl) (fun k _=>CG (E':=EL rs) ⟨rfl,rfl,trivial⟩)
   (fun k _=>Ep (by kernel_rfl)) (fun k hk=>⟨_,rfl,.refl _⟩) (fun o _ _=>YX rs hg o hl)
 have:=MT (p:=Im C0) h (by rw [bu];exact bg (bx _ _) (by decide))
 exact this
noncomputable def BV (rs:List (Nat × List Nat)):Nat->Nat->Nat
 |0,_=>0
 |t+1,o=>((Cf rs o).map fun k=>1+BV rs t k).foldl max 0
def B5 (rs:List (Nat × List Nat)) (t:Nat):List V:=(List.range 5).map fun o=>.int (BV rs t o)
def tb:Stmt:=at_ (sA (lv 2)) 0
def D0:Expr:=sE tb
def D1:Expr:=e1 D0
def D2:Expr:=e2 D1
def D3:Expr:=e2 D2
theorem Ww:D0 = .ListComp D1 [⟨C7 D0,e2 D0,[],0⟩] (B4 D0) (Im D0):=by kernel_rfl
theorem Wx:D1 = .Call (e1 D1) [D2] [] (eP D1):=by kernel_rfl
theorem Wy:D2 = .BinOp (e1 D2) .Add D3 (eP D2):=by kernel_rfl
theorem Wz:D3 = .ListComp (e1 D3) [⟨C7 D3,e2 D3,[],0⟩] (B4 D3) (Im D3):=by kernel_rfl
def Ei:Sc:=(B4 D0).names
def LK:Sc:=(B4 D3).names
def F0 (rs:List (Nat × List Nat)) (t:Nat) (x:V) (hp:List O):Prop:=x = .lst (B5 rs t)\/∃i,x = .ref i/\hp[i]? = some (.list (B5 rs t))
noncomputable abbrev FL (x:V):Loc:=[("files",.ref 1),("waits",.ref 2),("levels",x)]
noncomputable abbrev Dt (x:V) (o:Nat):Loc:=[("files",.ref 1),("waits",.ref 2),("levels",x),("own",.int o)]
noncomputable abbrev KH (x:V) (o k:Nat):Loc:=[("files",.ref 1),("waits",.ref 2),("levels",x),("own",.int o),("k",.int k)]
theorem F0.items {t:Nat} {x:V} (h:F0 rs t x w.hp):items x w=some (.ok (B5 rs t) w):=by
 rcases h with rfl | ⟨i,rfl,h⟩
 .rfl
 .exact JX h
theorem F0.item {rs:List (Nat × List Nat)} {t k:Nat} {x:V} {w:S} (h:F0 rs t x w.hp) (hk:k<5):item x (.int k) w=some (.ok (.int (BV rs t k)) w):=by
 have h1:=h.items
 have e:Mine.item x (.int k)=AD (Mine.items x) fun l=>match place l.length k with
   |some j=>BR l[j]?
   | .none=>if Gv x=false/\-5000<=(k:Int)/\(k:Int)<=5000 then DL "IndexError" else AG:=by
  rcases h with rfl | ⟨i,rfl,_⟩ <;> rfl
 rw [e,AJ h1]
 have h2:place (B5 rs t).length (k:Int)=some k:=by
  show (if k<(B5 rs t).length then some k else none)=_
  rw [ak (by unfold B5;simpa using hk)]
 rw [h2]
 have h3:(B5 rs t)[k]? = some (.int (BV rs t k)):=by
  unfold B5
  rw [List.getElem?_map,List.getElem?_range hk];rfl
 dsimp only
 rw [h3];rfl
theorem ZP {t o:Nat} {x:V} {sc:Sc} (hs:sc=LK) (h:F0 rs t x hp) (hk:k<5):Vr 8 (.ev (e1 D3)) ⟨KH x o k,sc,2,0,hp⟩ (.int ((1+BV rs t k:Nat):Int)) ⟨KH x o k,sc,2,0,hp⟩:=by
 subst hs
 have e:e1 D3 = .BinOp (e1 (e1 D3)) .Add (.Subscript (e1 (e2 (e1 D3))) (e2 (e2 (e1 D3))) (eP (e2 (e1 D3)))) (eP (e1 D3)):=by kernel_rfl
 rw [e]
 refine .DF (N:=7) (n:=4) (m:=6) (x:=.int 1) (y:=.int (BV rs t k)) (w:=⟨KH x o k,LK,2,0,hp⟩) (w1:=⟨KH x o k,LK,2,0,hp⟩) (.of (by kernel_rfl)) (.of ?_) ?_ (by lia) (by lia)
 .rw [J3 (n:=5) (ov:=x) (iv:=.int k) (by kernel_rfl) (by kernel_rfl) (by kernel_rfl)]
  exact h.item hk
 .show some (Out.ok (V.int (1+(BV rs t k:Int))) _)=_
  rfl
theorem ZQ {t o:Nat} {x:V} (h:F0 rs t x hp) (h2:hp[2]? = some (.list (W5 rs))) (ho:o<5) :
  Vr 10 (.ev D3) ⟨Dt x o,Ei,2,0,hp⟩ (.lst ((Cf rs o).map fun k=>.int ((1+BV rs t k:Nat):Int))) ⟨Dt x o,Ei,2,0,hp⟩:=by
 rw [Wz]
 have hw:item (.ref 2) (.int o) ⟨Dt x o,Ei,2,0,hp⟩=some (.ok (wV rs o) ⟨Dt x o,Ei,2,0,hp⟩):=item_list h2 (by unfold W5;rw [List.getElem?_map,List.getElem?_range ho];rfl)
 have hi:Ih.v (run 9) (.ev (e2 D3)) ⟨Dt x o,Ei,2,0,hp⟩=some (.ok (wV rs o) ⟨Dt x o,Ei,2,0,hp⟩):=by
  rw [show e2 D3 = .Subscript (e1 (e2 D3)) (e2 (e2 D3)) (eP (e2 D3)) from by kernel_rfl,J3 (n:=8) (ov:=.ref 2) (iv:=.int o) (by kernel_rfl) (by kernel_rfl) (by kernel_rfl),hw]
 have hm:∀k∈Cf rs o,k<5:=fun k hk=>List.mem_range.mp (List.mem_filter.mp hk).1
 have hf:(Cf rs o).filter (fun _=>true)=Cf rs o:=List.filter_eq_self.mpr fun _ _=>rfl
 have:=FH (N:=9) (Am:=e1 D3) (target:=C7 D3) (Ak:=[]) (asy:=0) (Ai:=wV rs o) (kd:=false) (as:=Cf rs o) (vV:=fun k=>V.int (k:Nat)) (ea:=fun k=>⟨KH x o k,LK,2,0,hp⟩) (pr:=fun _=>true) (g:=fun k=>.int ((1+BV rs t k:Nat):Int))
  (sc:=B4 D3) (by kernel_rfl) hi (fun E DM=>rfl) (fun k _=>CG (E':=Dt x o) ⟨rfl,rfl,rfl,rfl,trivial⟩)
  (fun k _=>Ep (by kernel_rfl)) (fun k _=>⟨_,rfl,.refl _⟩) (fun k hk _=>by
   obtain ⟨r,e,z⟩:=(ZP (o:=o) (sc:=LK) rfl h (hm k hk)).up (by lia:8<=9) (.refl _)
   exact ⟨r,e,z⟩)
 rw [hf] at this
 exact Io this (by simp;exact bg (bx _ _) (by decide))
theorem ints_cons {a:Int} {l:List V} {r:List Int} (h:Mine.Cb l=some r):Mine.Cb (.int a::l)=some (a::r):=by
 show both (some a) (DP V.int? l) (fun a as=>some (a::as))=_
 rw [show DP V.int? l=some r from h];rfl
theorem strs_cons {a:Str} {l:List V} {r:List Str} (h:Mine.CU l=some r):Mine.CU (.str a::l)=some (a::r):=by
 show both (some a) (DP V.B7 l) (fun a as=>some (a::as))=_
 rw [show DP V.B7 l=some r from h];rfl
theorem ints_map (l:List Nat) (f:Nat->Nat):Mine.Cb (l.map fun k=>V.int (f k:Nat))=some (l.map fun k=>(f k:Int)):=by
 induction l with
 |nil=>rfl
 |cons a r ih=>exact ints_cons ih
theorem UR (l:List Nat) (f:Nat->Nat) (a:Nat):Hr (a:Int) (l.map fun k=>(f k:Int))=(((l.map f).foldl max a:Nat):Int):=by
 induction l generalizing a with
 |nil=>rfl
 |cons b r ih=>
  show Hr (if (a:Int)<(f b:Int) then (f b:Int) else (a:Int)) (r.map fun k=>(f k:Int))=(((r.map f).foldl max (max a (f b)):Nat):Int)
  have:(if (a:Int)<(f b:Int) then (f b:Int) else (a:Int))=((max a (f b):Nat):Int):=by
   split <;> lia
  rw [this,ih]
theorem ZN {t o:Nat} {x:V} (h:F0 rs t x hp) (h2:hp[2]? = some (.list (W5 rs))) (ho:o<5) :
  Vr 12 (.ev D1) ⟨Dt x o,Ei,2,0,hp⟩ (.int (BV rs (t+1) o)) ⟨Dt x o,Ei,2,0,hp⟩:=by
 rw [Wx]
 refine .IP (N:=11) (n:=4) (m:=11) (id:="max") (w:=⟨Dt x o,Ei,2,0,hp⟩) (w1:=⟨Dt x o,Ei,2,0,hp⟩) (x:=.lst (.int 0::(Cf rs o).map fun k=>.int ((1+BV rs t k:Nat):Int))) (by kernel_rfl) (by kernel_rfl) (.of (by kernel_rfl)) ?_ ?_ (by lia) (by lia)
 .rw [Wy]
  refine .DF (N:=10) (n:=4) (m:=10) (x:=.lst [.int 0]) (w:=⟨Dt x o,Ei,2,0,hp⟩) (w1:=⟨Dt x o,Ei,2,0,hp⟩) (.of (by kernel_rfl)) (ZQ h h2 ho) ?_ (by lia) (by lia)
  have hl:([V.int 0]++(Cf rs o).map fun k=>V.int ((1+BV rs t k:Nat):Int)).length<=1000:=by
   simp
   exact bg (bx _ _) (by decide)
  show Bb ([V.int 0]++(Cf rs o).map fun k=>V.int ((1+BV rs t k:Nat):Int)) _=_
  unfold Bb
  rw [ak hl];rfl
 .show maxV (.int 0::(Cf rs o).map fun k=>V.int ((1+BV rs t k:Nat):Int)) _=_
  have hi:Mine.Cb (V.int 0::(Cf rs o).map fun k=>V.int ((1+BV rs t k:Nat):Int))=some (0::(Cf rs o).map fun k=>((1+BV rs t k:Nat):Int)):=ints_cons (ints_map _ fun k=>1+BV rs t k)
  unfold maxV
  rw [hi]
  show AF (V.int (Hr 0 ((Cf rs o).map fun k=>((1+BV rs t k:Nat):Int)))) _=_
  have:=UR (Cf rs o) (fun k=>1+BV rs t k) 0
  rw [show ((0:Nat):Int)=0 from rfl] at this
  rw [this]
  rfl
theorem ZM {t:Nat} {x:V} (h:F0 rs t x hp) (h2:hp[2]? = some (.list (W5 rs))) {rest:List O} (h1:hp = .tab :: .list kn::rest):Vr 13 (.evm D0) ⟨FL x,Ce,2,0,hp⟩ (.ref hp.length) ⟨FL x,Ce,2,0,hp++[.list (B5 rs (t+1))]⟩:=by
 rw [Ww]
 have hi:Ih.v (run 12) (.ev (e2 D0)) ⟨FL x,Ce,2,0,hp⟩=some (.ok (.rng 5) ⟨FL x,Ce,2,0,hp⟩):=by subst h1;kernel_rfl
 have h:∃s',comp (run 12) D1 (C7 D0) (e2 D0) [] 0 (B4 D0) ⟨FL x,Ce,2,0,hp⟩=some (.ok (((List.range 5).filter fun _=>true).map fun o=>V.int (BV rs (t+1) o)) s')/\SE ⟨FL x,Ce,2,0,hp⟩ s':=
  FH (N:=12) (Ai:=.rng 5) (kd:=false) (as:=List.range 5) (vV:=fun k=>V.int (k:Nat)) (ea:=fun o=>⟨Dt x o,Ei,2,0,hp⟩) (pr:=fun _=>true) (g:=fun o=>V.int (BV rs (t+1) o))
   (by kernel_rfl) hi (fun E DM=>rfl) (fun k _=>CG (E':=FL x) ⟨rfl,rfl,rfl,trivial⟩)
   (fun k _=>Ep (by kernel_rfl)) (fun k hk=>⟨_,rfl,.refl _⟩) (fun o ho _=>ZN h h2 (List.mem_range.mp ho))
 exact MT (p:=Im D0) h (by unfold B5;simp)
theorem lF {t:Nat} {x:V} (h:F0 rs t x hp) (h2:hp[2]? = some (.list (W5 rs))) {rest:List O} (h1:hp = .tab :: .list kn::rest):Fr 15 (.exs (sA (lv 2))) ⟨FL x,Ce,2,0,hp⟩ .next ⟨FL (.ref hp.length),Ce,2,0,hp++[.list (B5 rs (t+1))]⟩:=by
 have e:sA (lv 2)=[tb]:=by kernel_rfl
 have e':tb = .Assign [.Name "levels" (eP (sT tb))] D0 (sP tb):=by kernel_rfl
 rw [e,e']
 obtain ⟨r,er,z⟩:=ZM h h2 h1
 have g:=Ln (n:=13) (x:="levels") (p:=eP (sT tb)) (q:=sP tb) (e:=D0) (by kernel_rfl) (s':=r) (by rw [z.sc];exact .inr (by kernel_rfl)) er
 refine .exs (n:=14) (m:=1) (w1:=⟨FL (.ref hp.length),Ce,2,0,hp++[.list (B5 rs (t+1))]⟩) ⟨_,g,?_⟩ .nil (by lia) (by lia)
 refine ⟨z.sc,z.hd,z.lo,z.hp,fun y v ey=>?_⟩
 show AN y (Ao "levels" (.ref hp.length) r.AA)=some v
 rw [Hg]
 have ey:AN y (FL (.ref hp.length))=some v:=ey
 by_cases hy:y = "levels"
 .subst hy
  rw [ak rfl]
  have:AN "levels" (FL (.ref hp.length))=some (.ref hp.length):=by rfl
  rw [this] at ey
  exact ey
 .rw [aj hy]
  refine z.AA y v ?_
  show AN y (FL x)=some v
  have e1:∀u,AN y (FL u)=AN y [("files",V.ref 1),("waits",.ref 2)]:=fun u=>by
   unfold FL
   simp only [AN]
   have:((("levels" : Str)==y)=false):=beq_false_of_ne (fun q=>hy q.symm)
   rw [this]
   rfl
  rw [e1] at ey ⊢
  exact ey
def GJ:Stmt:=lv 2
def Gq (rs:List (Nat × List Nat)):List O:=hp2++[.list (W5 rs)]
def V8 (rs:List (Nat × List Nat)) (c:Nat × V × List O) (_:Nat):Nat × V × List O:=(c.1+1,.ref c.2.2.length,c.2.2++[.list (B5 rs (c.1+1))])
def eL (c:Nat × V × List O):S:=⟨FL c.2.1,Ce,2,0,c.2.2⟩
def Ka (rs:List (Nat × List Nat)):Nat × V × List O:=(6,.ref 8,Gq rs++[.list (B5 rs 1),.list (B5 rs 2),.list (B5 rs 3),.list (B5 rs 4),.list (B5 rs 5),.list (B5 rs 6)])
noncomputable abbrev FW (rs:List (Nat × List Nat)):Loc:=[("files",.ref 1),("rules",R0 rs),("waits",.ref 2)]
abbrev FV (rs:List (Nat × List Nat)):Loc:=[("files",.ref 1),("rules",R0 rs),("waits",.ref 2),("levels",.lst (B5 rs 0))]
theorem kY (rs:List (Nat × List Nat)) (hg:∀r∈rs,r.1<5/\r.2∈rows) (hl:rs.length<=1000):Fr 40 (.exs (A0 211)) (lS (EL rs) Ce) (.ret (.ref 8)) (eL (Ka rs)):=by
 have e:A0 211=[lv 0,lv 1,GJ,lv 3]:=by kernel_rfl
 have e0:lv 0 = .Assign [.Name "waits" (eP (sT (lv 0)))] C0 (sP (lv 0)):=by kernel_rfl
 have eF:GJ = .For (.Name "turn" (eP (sT GJ))) (sE GJ) (sA GJ) [] (sP GJ):=by kernel_rfl
 obtain ⟨r,er,z⟩:=YV rs hg hl
 have g0:=Ln (n:=34) (x:="waits") (p:=eP (sT (lv 0))) (q:=sP (lv 0)) (e:=C0) (by kernel_rfl) (s':=r) (by rw [z.sc];exact .inr (by kernel_rfl)) er
 have z0:SE ⟨FW rs,Ce,2,0,Gq rs⟩ {r with AA:=Ao "waits" (.ref 2) r.AA}:=⟨z.sc,z.hd,z.lo,z.hp,M9 (WG (by
  refine ⟨?_,?_,?_,trivial⟩
  .show AN "files" (Ao "waits" (.ref 2) r.AA)=_
   rw [Hg,aj (by decide)];exact z.AA _ _ rfl
  .show AN "rules" (Ao "waits" (.ref 2) r.AA)=_
   rw [Hg,aj (by decide)];exact z.AA _ _ rfl
  .show AN "waits" (Ao "waits" (.ref 2) r.AA)=_
   rw [Hg,ak rfl]))⟩
 have g1:Fr 12 (.ex (lv 1)) ⟨FW rs,Ce,2,0,Gq rs⟩ .next ⟨FV rs,Ce,2,0,Gq rs⟩:=.of (by kernel_rfl)
 obtain ⟨gF,_⟩:=Ia (n:=8) (m:=15) (N:=20) (x:="turn") (p:=eP (sT GJ)) (q:=sP GJ) (I:=sE GJ) (body:=sA GJ) eL (Ai:=.rng 6) (kd:=false) (as:=List.range 6) (vV:=fun k=>V.int (k:Nat)) (stp:=V8 rs)
  (Inv:=fun _ c=>F0 rs c.1 c.2.1 c.2.2/\c.2.2[2]? = some (.list (W5 rs))/\∃rest,c.2.2 = .tab :: .list kn::rest) (c0:=(0,.lst (B5 rs 0),Gq rs)) (s0:=⟨FV rs,Ce,2,0,Gq rs⟩) (w0:=⟨FV rs,Ce,2,0,Gq rs⟩)
  (.of (by kernel_rfl)) (CG ⟨rfl,rfl,rfl,trivial⟩) (fun _ _ _=>rfl) (fun c=>.inl (by kernel_rfl)) (fun a r c _ ⟨i1,i2,rest,i3⟩=>by
   obtain ⟨t,x,hp⟩:=c
   dsimp only at i1 i2 i3
   have g:=lF i1 i2 i3
   have l2:2<hp.length:=(List.getElem?_eq_some_iff.mp i2).1
   refine ⟨⟨.next,.inl rfl,g.up (ao 15) ?_⟩,.inr ⟨_,rfl,?_⟩,?_,rest++[.list (B5 rs (t+1))],?_⟩
   .refine ⟨rfl,rfl,ao _,rfl,fun y v ey=>?_⟩
    show AN y (Ao "turn" (.int a) (FL x))=some v
    rw [Hg]
    have ey:AN y (FL x)=some v:=ey
    by_cases hy:y = "turn"
    .subst hy
     have:AN "turn" (FL x)=none:=by rfl
     rw [this] at ey;exact nn ey
    .rw [aj hy];exact ey
   .show (hp++[O.list (B5 rs (t+1))])[hp.length]? = some (O.list (B5 rs (t+1)))
    simp
   .show (hp++[O.list (B5 rs (t+1))])[2]? = _
    rw [bw l2];exact i2
   .show hp++[O.list (B5 rs (t+1))]=_
    rw [i3];rfl) ⟨.inl rfl,rfl,_,rfl⟩ (by lia) (by lia) (by lia)
 rw [<-eF] at gF
 have ef:(List.range 6).foldl (V8 rs) (0,.lst (B5 rs 0),Gq rs)=Ka rs:=by rfl
 rw [ef] at gF
 have gr:Fr 6 (.exs [lv 3]) (eL (Ka rs)) (.ret (.ref 8)) (eL (Ka rs)):=.of (by kernel_rfl)
 rw [e]
 rw [e0]
 exact .exs (n:=35) (m:=39) (w1:=⟨FW rs,Ce,2,0,Gq rs⟩) ⟨_,g0,z0⟩ (.exs g1 (.exs gF gr (by lia:21<=37) (by lia)) (by lia:12<=38) (by lia)) (by lia) (by lia)
theorem kZ (rs:List (Nat × List Nat)) (hg:∀r∈rs,r.1<5/\r.2∈rows) (hl:rs.length<=1000) (E:Loc) (sc:Sc) (lo:Nat):Vr 41 (.call 211 [.ref 1,R0 rs]) ⟨E,sc,lo,0,hp2⟩ (.lst (B5 rs 6)) ⟨E,sc,lo,0,hp2⟩:=by
 refine Me (by kernel_rfl) (l:=EL rs) ?_ (by kernel_rfl) (kY rs hg hl) ?_
 .have e:Bh (Aj 211) [.ref 1,R0 rs]=some (EL rs):=by kernel_rfl
  exact e
 .have e:fz 2 (Ka rs).2.2 4 (.ref 8)=some (.lst (B5 rs 6)):=by kernel_rfl
  exact e
noncomputable def upd {α:Type} (f:Nat->α) (i:Nat) (v:α):Nat->α:=fun x=>if x==i then v else f x
noncomputable def HS (rd:V) (po fin:Int) (np:Nat->Int) (sc:Nat->List Nat):List O:=
 [.tab,.list kn,.inst [("_node2info",.ref 3),("_ready_nodes",rd),("_npassedout",.int po),("_nfinished",.int fin)],
  .dict [("a",.ref 4),("ab",.ref 6),("b",.ref 8),("ba",.ref 10),("aab",.ref 12)] true,
  .node (some (.str "a")) (some (.int (np 0))) (some (.ref 5)),.list ((sc 0).map nV),
  .node (some (.str "ab")) (some (.int (np 1))) (some (.ref 7)),.list ((sc 1).map nV),
  .node (some (.str "b")) (some (.int (np 2))) (some (.ref 9)),.list ((sc 2).map nV),
  .node (some (.str "ba")) (some (.int (np 3))) (some (.ref 11)),.list ((sc 3).map nV),
  .node (some (.str "aab")) (some (.int (np 4))) (some (.ref 13)),.list ((sc 4).map nV)]
theorem XC {fin:Int} (hj:j<5):(HS rd po fin np sc)[5+2*j]? = some (.list ((sc j).map nV)):=by
 refine five j hj ?_ ?_ ?_ ?_ ?_ <;> rfl
theorem XD {fin:Int} (hj:j<5) (l:List Nat):(HS rd po fin np sc).set (5+2*j) (.list (l.map nV))=HS rd po fin np (upd sc j l):=by
 refine five j hj ?_ ?_ ?_ ?_ ?_ <;> rfl
def qV:Sc:=(Aj 1004).sc
def ad (i:Nat):Stmt:=at_ (A0 1004) i
def Dj:Stmt:=ad 3
def Dv:Stmt:=at_ (sA Dj) 1
noncomputable abbrev EA (i:Nat):Loc:=[("self",.ref 2),("node",nV i)]
abbrev aS (E:Loc) (hp:List O):S:=⟨E,qV,1,0,hp⟩
noncomputable abbrev EB (i j:Nat):Loc:=[("self",.ref 2),("node",nV i),("pred",nV j),("pred_info",.ref (4+2*j))]
theorem Xd {fin:Int} (hj:j<5):Fr 20 (.ex (at_ (sA Dj) 0)) (aS [("self",.ref 2),("node",nV i),("pred",nV j)] (HS .none po fin np sc)) .next (aS (EB i j) (HS .none po fin np sc)):=by
 refine five j hj ?_ ?_ ?_ ?_ ?_ <;> exact .of (by kernel_rfl)
theorem Xe {fin:Int} (hj:j<5):Ih.v (run 8) (.ev (e1 (e1 (sE Dv)))) (aS (EB i j) (HS .none po fin np sc))=some (.ok (.ref (5+2*j)) (aS (EB i j) (HS .none po fin np sc))):=by
 refine five j hj ?_ ?_ ?_ ?_ ?_ <;> kernel_rfl
theorem Xl {fin:Int} (hj:j<5) (hl:(sc j).length<1000) :
  Fr 24 (.exs (sA Dj)) (aS [("self",.ref 2),("node",nV i),("pred",nV j)] (HS .none po fin np sc)) .next (aS (EA i) (HS .none po fin np (upd sc j (sc j++[i])))):=by
 have e:sA Dj=[at_ (sA Dj) 0,Dv]:=by kernel_rfl
 have OG:Dv = .Expr (.Call (.Attribute (e1 (e1 (sE Dv))) "append" (eP (e1 (sE Dv)))) [e2 (sE Dv)] [] (eP (sE Dv))) (sP Dv):=by kernel_rfl
 have g0:=Xd (i:=i) (po:=po) (fin:=fin) (np:=np) (sc:=sc) hj
 have ho:=Xe (i:=i) (po:=po) (fin:=fin) (np:=np) (sc:=sc) hj
 have g1:=Nj (n:=8) (o:=e1 (e1 (sE Dv))) (E:=e2 (sE Dv)) (ap:=eP (e1 (sE Dv))) (cp:=eP (sE Dv)) (p:=sP Dv) (by kernel_rfl) (by kernel_rfl) ho (XC hj) (v:=nV i) (by kernel_rfl) (by simpa using hl) (show 1<=5+2*j by lia)
 have e3:(sc j).map nV++[nV i]=(sc j++[i]).map nV:=by simp
 rw [e3] at g1
 have JT:=XD (rd:=.none) (po:=po) (fin:=fin) (np:=np) (sc:=sc) hj (sc j++[i])
 have cB:Fr 10 (.ex Dv) (aS (EB i j) (HS .none po fin np sc)) .next (aS (EB i j) (HS .none po fin np (upd sc j (sc j++[i])))):=by
  rw [OG]
  dsimp only at g1
  rw [JT] at g1
  exact .of g1
 rw [e]
 exact .exs g0 (.exs cB (Fr.nil.we (CG ⟨rfl,rfl,trivial⟩)) (ao 10) (by lia)) (by lia:20<=23) (by lia)
def Cg (i:Nat) (sc:Nat->List Nat) (T:List Nat):Nat->List Nat:=T.foldl (fun c j=>upd c j (c j++[i])) sc
set_option tactic.hygienic true in
theorem We (k:Nat):(upd sc j (sc j++[i]) k).length<=(sc k).length+1:=by
 unfold upd
 split
 .rename_i h
  have:=eq_of_beq h
  subst this
  simp
 .lia
theorem Xi (hi:i<5) {fin:Int} {T:List Nat} (hT:∀j∈T,j<5) (hl:∀j,(sc j).length+T.length<1000) :
  Fr 40 (.exs (A0 1004)) (aS [("self",.ref 2),("node",nV i),("predecessors",.tup (T.map nV))] (HS .none po fin np sc)) .next (aS (EA i) (HS .none po fin (upd np i (np i+T.length)) (Cg i sc T))):=by
 have e:A0 1004=[ad 0,ad 1,ad 2,Dj]:=by kernel_rfl
 have eF:Dj = .For (.Name "pred" (eP (sT Dj))) (sE Dj) (sA Dj) [] (sP Dj):=by kernel_rfl
 have g0:Fr 30 (.exs ([ad 0,ad 1,ad 2])) (aS [("self",.ref 2),("node",nV i),("predecessors",.tup (T.map nV))] (HS .none po fin np sc)) .next (aS [("self",.ref 2),("node",nV i),("predecessors",.tup (T.map nV)),("nodeinfo",.ref (4+2*i))] (HS .none po fin (upd np i (np i+(T.map nV).length)) sc)):=by
  refine five i hi ?_ ?_ ?_ ?_ ?_ <;> exact .of (by kernel_rfl)
 rw [bu] at g0
 obtain ⟨gF,_⟩:=Ia (n:=8) (m:=24) (N:=30) (x:="pred") (p:=eP (sT Dj)) (q:=sP Dj) (I:=sE Dj) (body:=sA Dj) (fun c:Nat->List Nat=>aS (EA i) (HS .none po fin (upd np i (np i+T.length)) c)) (Ai:=.tup (T.map nV)) (kd:=false) (as:=T) (vV:=nV) (stp:=fun c j=>upd c j (c j++[i]))
  (Inv:=fun r c=>∀j,(c j).length+r.length<1000) (c0:=sc) (s0:=aS [("self",.ref 2),("node",nV i),("predecessors",.tup (T.map nV)),("nodeinfo",.ref (4+2*i))] (HS .none po fin (upd np i (np i+T.length)) sc)) (w0:=aS [("self",.ref 2),("node",nV i),("predecessors",.tup (T.map nV)),("nodeinfo",.ref (4+2*i))] (HS .none po fin (upd np i (np i+T.length)) sc))
  (.of (by kernel_rfl)) (CG ⟨rfl,rfl,trivial⟩) (fun _ _ _=>rfl) (fun c=>.inl (by kernel_rfl)) (fun j r c hj inv=>by
   refine ⟨⟨.next,.inl rfl,Xl (hT j hj) (by have:=inv j;simp at this;lia)⟩,fun k=>?_⟩
   have h1:=inv k
   have h2:=We (sc:=c) (i:=i) (j:=j) k
   simp at h1
   show (upd c j (c j++[i]) k).length+r.length<1000
   lia) hl (by lia) (by lia) (by lia)
 rw [<-eF] at gF
 rw [e]
 exact Fr.app (n:=30) (m:=32) (xs:=[ad 0,ad 1,ad 2]) g0 (.exs gF .nil (by lia:31<=31) (by lia)) (by lia) (by simp)
theorem Xk (hi:i<5) {fin:Int} {T:List Nat} (hT:∀j∈T,j<5) (hl:∀j,(sc j).length+T.length<990) (E:Loc) (c:Sc) :
  Vr 41 (.call 1004 (.ref 2::nV i::T.map nV)) ⟨E,c,1,0,HS .none po fin np sc⟩ .none ⟨E,c,1,0,HS .none po fin (upd np i (np i+T.length)) (Cg i sc T)⟩:=by
 refine Ht (fl:=.next) (w:=aS (EA i) (HS .none po fin (upd np i (np i+T.length)) (Cg i sc T))) (l:=[("self",.ref 2),("node",nV i),("predecessors",.tup (T.map nV))]) (by kernel_rfl) ?_ (by kernel_rfl) (Xi hi hT (fun j=>by have:=hl j;lia)) (ao _) rfl
 have hlen:(V.ref 2::nV i::T.map nV).length<=1000:=by have:=hl 0;simp;lia
 unfold Bh
 rw [ak hlen]
 kernel_rfl
theorem Ye {E:Loc} {sc:Sc} (e:Ih.v (run n) (.call f as) s=some (.ok v r)):Ih.v (run n) (.call f as) {s with AA:=E,sc:=sc}=some (.ok v {r with AA:=E,sc:=sc}):=by
 induction n using zc with
 |zero=>exact nn e
 |succ n=>
  rw [Av,IU] at e ⊢
  induction h1:CZ f fns using oc with
  |none=>rw [h1] at e;exact nn e
  |some fn=>
   rw [h1] at e
   dsimp only at e ⊢
   induction h2:Bh fn as using oc with
   |none=>rw [h2] at e;exact nn e
   |some l=>
    rw [h2] at e
    dsimp only at e ⊢
    have hi:B0 f fn l {s with AA:=E,sc:=sc}=B0 f fn l s:=rfl
    rw [hi]
    unfold Ff at e ⊢
    induction h3:Ih.f (run n) (.exs fn.body) (B0 f fn l s) using oc with
    |none=>rw [h3] at e;exact nn e
    |some o=>
     rw [h3] at e
     induction o using uc with
     |ex c s'=>
      dsimp only at e
      cases hp:Bf f <;> rw [hp] at e <;> cases e
     |ok fl s'=>
      dsimp only at e ⊢
      induction hp:Bf f using bc with
      |true=>
       rw [hp,ak rfl] at e
       rw [ak rfl]
       induction hz:fz s.hp.length s'.hp 4 (ET fl) using oc with
       |none=>rw [hz] at e;exact nn e
       |some v'=>rw [hz] at e;cases e;rfl
      |false=>
       rw [hp,aj (by decide)] at e
       rw [aj (by decide)]
       cases e
       rfl
theorem oq (hp:Bf f=true) (e:Ih.v (run n) (.call f as) s=some (.ok v r)):r=s:=by
 induction n using zc with
 |zero=>exact nn e
 |succ n=>
  rw [Av,IU] at e
  induction h1:CZ f fns using oc with
  |none=>rw [h1] at e;exact nn e
  |some fn=>
   rw [h1] at e
   dsimp only at e
   induction h2:Bh fn as using oc with
   |none=>rw [h2] at e;exact nn e
   |some l=>
    rw [h2] at e
    dsimp only at e
    unfold Ff at e
    induction h3:Ih.f (run n) (.exs fn.body) (B0 f fn l s) using oc with
    |none=>rw [h3] at e;exact nn e
    |some o=>
     rw [h3] at e
     induction o using uc with
     |ex c s'=>dsimp only at e;rw [hp] at e;exact nn e
     |ok fl s'=>
      dsimp only at e
      rw [hp,ak rfl] at e
      induction hz:fz s.hp.length s'.hp 4 (ET fl) using oc with
      |none=>rw [hz] at e;exact nn e
      |some v'=>rw [hz] at e;cases e;rfl
theorem Mg (hp:Bf f=true) (h:n<=m) (e:Ih.v (run n) (.call f as) s=some (.ok v r)) (R:SR L k X s t):Ih.v (run m) (.call f (V.Af L k as)) t=some (.ok (v.rn L k) t):=by
 obtain ⟨o',e',z⟩:=BU (EH h) (t:=.call f as) s t R _ e
 have e':Ih.v (run m) (.call f (V.Af L k as)) t=some o':=e'
 induction o' using uc with
 |ex c t'=>exact z.elim
 |ok b t'=>
  obtain ⟨rfl,_⟩:=z
  rw [oq hp e'] at e'
  exact e'
def S.ins (L k:Nat) (X:List O) (s:S):S:=⟨V.BI L k s.AA,s.sc,rn L k s.lo,s.hd,Mine.ins L k X s.hp⟩
theorem SR.self (h:L<=s.hp.length) (hx:X.length=k):SR L k X s (S.ins L k X s):=⟨rfl,rfl,ao _,h,hx,rfl,fun x v e=>by show AN x (V.BI L k s.AA)=_;rw [Gm,e];rfl⟩
theorem SR.pre (z:SE w r) (R:SR L k X r t):SE (S.ins L k X w) t:=⟨R.sc.trans z.sc,R.hd.trans z.hd,bg R.lo (VF.mpr z.lo),by rw [R.hp,z.hp];rfl,fun x v e=>by
 have e:AN x (V.BI L k w.AA)=some v:=e
 rw [Gm] at e
 induction q:AN x w.AA using oc with
 |none=>rw [q] at e;exact nn e
 |some u=>rw [q] at e;obtain rfl:=aa e;exact R.AA x u (z.AA x u q)⟩
theorem Fr.ins {a:T} {fl:Fl} (g:Fr n a s fl w) (h:L<=s.hp.length) (hx:X.length=k):Fr n (a.rn L k) (S.ins L k X s) (fl.rn L k) (S.ins L k X w):=by
 obtain ⟨r,e,z⟩:=g
 obtain ⟨o',e',y⟩:=Ek (EH (ao n)) (t:=a) s _ (SR.self h hx) _ e
 induction o' using uc with
 |ex c t'=>exact y.elim
 |ok b t'=>
  obtain ⟨rfl,R⟩:=y
  exact ⟨t',e',R.pre z⟩
theorem Vr.ins {a:T} (g:Vr n a s v w) (h:L<=s.hp.length) (hx:X.length=k):Vr n (a.rn L k) (S.ins L k X s) (v.rn L k) (S.ins L k X w):=by
 obtain ⟨r,e,z⟩:=g
 obtain ⟨o',e',y⟩:=BU (EH (ao n)) (t:=a) s _ (SR.self h hx) _ e
 induction o' using uc with
 |ex c t'=>exact y.elim
 |ok b t'=>
  obtain ⟨rfl,R⟩:=y
  exact ⟨t',e',R.pre z⟩
theorem Vr.AA {E:Loc} {sc:Sc} (g:Vr n (.call f as) s v w):Vr n (.call f as) {s with AA:=E,sc:=sc} v {w with AA:=E,sc:=sc}:=by
 obtain ⟨r,e,z⟩:=g
 exact ⟨_,Ye e,rfl,z.hd,z.lo,z.hp,fun _ _ e=>e⟩
theorem wA {r:List Nat} (hr:r∈rows) (E:Loc) (sc:Sc):Ih.v (run 37) (.call 62 [Iz r,.ref (1+X.length),.str "."]) ⟨E,sc,1,0,.tab::X++[.obj]⟩=some (.ok ((GW r).rn 1 X.length) ⟨E,sc,1,0,.tab::X++[.obj]⟩):=by
 have h:=List.map_inj_left.mp (wB sc) r hr
 have R:SR 1 X.length X (s1 sc) ⟨E,sc,1,0,.tab::X++[.obj]⟩:=⟨rfl,rfl,by show 1<=rn 1 X.length 1;unfold rn;simp,(show 1<=2 by decide),rfl,rfl,fun x v e=>by exact nn e⟩
 have:=Mg (m:=37) (by kernel_rfl) (ao 37) h R
 have e:V.Af 1 X.length [Iz r,.ref 1,.str "."]=[Iz r,.ref (1+X.length),.str "."]:=rfl
 rw [e] at this
 exact this
theorem vO {r:List Nat} (hr:r∈rows) (C6:κ<5) (E:Loc) (sc:Sc):Ih.v (run 37) (.call 201 [(GW r).rn 1 X.length,.ref (1+X.length),nV κ]) ⟨E,sc,1,0,.tab::X++[.obj]⟩=some (.ok (.bool (D4 r κ)) ⟨E,sc,1,0,.tab::X++[.obj]⟩):=by
 have h:=vQ r hr κ C6 sc
 have R:SR 1 X.length X (s1 sc) ⟨E,sc,1,0,.tab::X++[.obj]⟩:=⟨rfl,rfl,by show 1<=rn 1 X.length 1;unfold rn;simp,(show 1<=2 by decide),rfl,rfl,fun x v e=>by exact nn e⟩
 have:=Mg (m:=37) (by kernel_rfl) (ao 37) h R
 have e:V.Af 1 X.length [GW r,.ref 1,nV κ]=[(GW r).rn 1 X.length,.ref (1+X.length),nV κ]:=rfl
 rw [e] at this
 exact this
theorem G4 (l:List Nat):V.Af L k (l.map nV)=l.map nV:=by
 rw [Dn,List.map_map]
 exact List.map_congr_left fun i _=>rfl
theorem Ul {l:List V}:O.rn L k (.list l) = .list (V.Af L k l):=rfl
theorem Uj {c:Bool}:O.rn L k (.dict l c) = .dict (V.BI L k l) c:=rfl
theorem Uk:O.rn L k (.inst l) = .inst (V.BI L k l):=rfl
theorem Um {a b c:Option V}:O.rn L k (.node a b c) = .node (a.map (V.rn L k)) (b.map (V.rn L k)) (c.map (V.rn L k)):=rfl
theorem Tu:V.Af L k kn=kn:=G4 _
theorem KI {fin:Int} (k:Nat) (X:List O):ins 14 k X (HS rd po fin np sc)=HS (rd.rn 14 k) po fin np sc++X:=by
 have e1:(HS rd po fin np sc).take 14=HS rd po fin np sc:=rfl
 have e2:(HS rd po fin np sc).drop 14=[]:=rfl
 have e3:(HS rd po fin np sc).map (O.rn 14 k)=HS (rd.rn 14 k) po fin np sc:=by
  unfold HS
  simp only [bq,List.map_nil,Ul,Uj,Uk,Um,QE,QD,G4,Tu,Option.map_some,Option.map_none]
  rfl
 unfold ins
 rw [e1,e2,e3]
 simp
theorem NW {fin:Int} (k:Nat) (X:List O) (Y:List O):ins 14 k X (HS rd po fin np sc++Y)=HS (rd.rn 14 k) po fin np sc++X++Y.map (O.rn 14 k):=by
 have e1:(HS rd po fin np sc++Y).take 14=HS rd po fin np sc:=rfl
 have e2:(HS rd po fin np sc++Y).drop 14=Y:=rfl
 have:=KI (rd:=rd) (po:=po) (fin:=fin) (np:=np) (sc:=sc) k X
 unfold ins at this ⊢
 rw [e1,e2]
 have e3:(HS rd po fin np sc).take 14=HS rd po fin np sc:=rfl
 have e4:(HS rd po fin np sc).drop 14=[]:=rfl
 rw [e3,e4] at this
 simp only [List.map_nil,List.append_nil] at this
 rw [this]
theorem Jd {o:Expr} {nm:Str} (hp:(DK o&&ap.endLine==cp.line)=true) (ho:Ih.v (run n) (.ev o) s=some (.ok (.ref i) s)) (hi:s.hp[i]? = some (.inst l)) (hl:AN nm l=none) (hm:GK nm methods=some f)
  (he:∃r,BG (run n) args s=some (.ok as r)/\SE w1 r) (g:Vr m (.call f (.ref i::as)) w1 v w) (hn:m<=n):Vr (n+1) (.ev (.Call (.Attribute o nm ap) args [] cp)) s v w:=by
 obtain ⟨r1,e1,z1⟩:=he
 obtain ⟨r2,e2,z2⟩:=g.up hn z1
 refine ⟨r2,?_,z2⟩
 rw [Av,EP]
 show (if DK o&&ap.endLine==cp.line then Gi (run n) o nm args else AG) s=_
 rw [ak hp,Lp,AJ ho]
 show AD (A4 i) _ s=_
 have hg:A4 i s=some (.ok (.inst l) s):=by unfold A4;rw [hi]
 rw [AJ hg]
 show EX (run n) i l nm args s=_
 unfold EX
 rw [hl,hm]
 dsimp only
 rw [AJ e1]
 exact e2
theorem aF {a:Expr} {x:V} {l:List V} (hs:Bk a=false) (g1:Vr n (.ev a) s x w1) (g2:Vr m (.ev c) w1 (.lst l) w) (h1:n<=N) (h2:m<=N):∃r,BG (run N) [a,.Starred c p] s=some (.ok (x::l) r)/\SE w r:=by
 obtain ⟨r1,e1,z1⟩:=g1.up h1 (.refl s)
 obtain ⟨r2,e2,z2⟩:=g2.up h2 z1
 refine ⟨r2,?_,z2⟩
 rw [F9 hs,AJ e1,Lx]
 show AD (AD (Ih.v (run N) (.ev c)) _) _ r1=_
 rw [A9,AJ e2]
 show some (Out.ok (x::(l++[])) r2)=_
 rw [List.append_nil]
theorem aG {l:List V} (h:BG (run n) args s=some (.ok l w)) (hn:n<=m):∃r,BG (run m) args s=some (.ok l r)/\SE w r:=DN (fun l=>V.GO 0 l) (GS (EH (L:=0) (k:=0) (X:=[]) hn) args) (.refl _) h
theorem Gl {g:Expr} {a:Nat} {l:List V} (hE:E = .Call g args [] p) (hf:GI g=false) (h1:Ih.v (run n) (.ev g) s=some (.ok (.glob a) s)) (hc:∀l,FG (run n) (.glob a) l=Ih.v (run n) (.call a l))
  (h2:∃r,BG (run n) args s=some (.ok l r)/\SE w1 r) (gg:Vr m (.call a l) w1 v w) (hm:m<=n):Vr (n+1) (.ev E) s v w:=by
 obtain ⟨r1,e1,z1⟩:=h2
 obtain ⟨r,e,z⟩:=gg.up hm z1
 refine ⟨r,?_,z⟩
 rw [hE,Av,EP]
 show Dy (run n) g args p s=_
 rw [HU hf,AJ h1,AJ e1,hc]
 exact e
theorem F3 {x:Str} {q:Pos} (hm:Dl e=false) (hx:w.sc.lookup x=some .local\/w.sc.lookup x=some .cell) (g:Vr n (.ev e) s v w):Fr (n+1) (.ex (.Assign [.Name x p] e q)) s .next {w with AA:=Ao x v w.AA}:=by
 obtain ⟨r,e',z⟩:=g
 refine ⟨_,Xv hm (by rw [z.sc];exact hx) e',z.sc,z.hd,z.lo,z.hp,fun y u ey=>?_⟩
 have ey:AN y (Ao x v w.AA)=some u:=ey
 show AN y (Ao x v r.AA)=some u
 rw [Hg] at ey ⊢
 by_cases hy:y=x
 .rw [ak hy] at ey ⊢;exact ey
 .rw [aj hy] at ey ⊢;exact z.AA y u ey
def VP:Sc:=(Aj 216).sc
def EJ:Stmt:=at_ (A0 216) 2
def so (i:Nat):Stmt:=at_ (sA EJ) i
abbrev sS (E:Loc) (hp:List O):S:=⟨E,VP,1,0,hp⟩
noncomputable abbrev ES:Loc:=[("files",.ref 1),("sorter",.ref 2)]
abbrev JC (r:Nat × List Nat):Loc:=[("files",.ref 1),("sorter",.ref 2),("which",.int r.1),("row",C9 r.2)]
abbrev KG (r:Nat × List Nat):Loc:=[("files",.ref 1),("sorter",.ref 2),("which",.int r.1),("row",C9 r.2),("star",.ref 14)]
abbrev Ga (r:Nat × List Nat) (pv:V):Loc:=[("files",.ref 1),("sorter",.ref 2),("which",.int r.1),("row",C9 r.2),("star",.ref 14),("parts",pv)]
def HC:Expr:=sE (so 1)
def Qo:List Expr:=match HC with | .Call _ as _ _=>as | _=>[]
theorem v8 (x:Int) (hp:List O):rows.map (fun r=>BG (run 10) Qo (sS [("files",.ref 1),("sorter",.ref 2),("which",.int x),("row",C9 r),("star",.ref 14)] hp))=rows.map (fun r=>some (.ok [Iz r,.ref 14,.str "."] (sS [("files",.ref 1),("sorter",.ref 2),("which",.int x),("row",C9 r),("star",.ref 14)] hp))):=by kernel_rfl
end
section
open PySem
variable {n m N f L k κ:Nat} {s t w w1 r:S} {v pv:V} {b:Bool} {as:List V} {X:List O} {po fin:Int} {np:Nat->Int} {sc:Nat->List Nat} {q:Nat × List Nat}
abbrev BL (np:Nat->Int) (sc:Nat->List Nat):List O:=HS .none 0 0 np sc
theorem tT:Fr 8 (.ex (so 0)) (sS (JC q) (BL np sc)) .next (sS (KG q) (BL np sc++[O.obj])):=.of (by kernel_rfl)
theorem tU (hq:q.2∈rows):Fr 40 (.ex (so 1)) (sS (KG q) (BL np sc++[O.obj])) .next (sS (Ga q ((GW q.2).rn 1 13)) (BL np sc++[O.obj])):=by
 have e:so 1 = .Assign [.Name "parts" (eP (sT (so 1)))] HC (sP (so 1)):=by kernel_rfl
 have e':HC = .Call (e1 HC) Qo [] (eP HC):=by kernel_rfl
 rw [e]
 have h2:=List.map_inj_left.mp (v8 q.1 (BL np sc++[O.obj])) q.2 hq
 have h3:=wA hq (X:=(BL np sc).drop 1) (KG q) VP
 have g:Vr 39 (.ev HC) (sS (KG q) (BL np sc++[O.obj])) ((GW q.2).rn 1 13) (sS (KG q) (BL np sc++[O.obj])):=
  Gl (n:=38) (m:=37) (E:=HC) (g:=e1 HC) (args:=Qo) (p:=eP HC) (a:=62) (l:=[Iz q.2,.ref 14,.str "."]) e' (by kernel_rfl) (by kernel_rfl) (fun l=>rfl) (aG h2 (by lia)) (.of h3) (by lia)
 exact F3 (by kernel_rfl) (.inr (by kernel_rfl)) g
def KQ:Expr:=sE (so 2)
def Xb:Expr:=match KQ with | .Call (.Attribute o _ _) _ _ _=>o | e=>e
def Xa:Pos:=match KQ with | .Call (.Attribute _ _ p) _ _ _=>p | _=>default
def JD:Expr:=match KQ with | .Call _ (a::_) _ _=>a | e=>e
def RN:Expr:=match KQ with | .Call _ (_::b::_) _ _=>b | e=>e
def Xc:Pos:=match RN with | .Starred _ p=>p | _=>default
def F2:Expr:=match RN with | .Starred e _=>e | e=>e
def Gf:Expr:=(Il F2).headD default
def WN:List Expr:=match Gf with | .Call _ as _ _=>as | _=>[]
def Ms:Sc:=(B4 F2).names
abbrev LZ (q:Nat × List Nat) (pv:V) (κ:Nat):Loc:=[("files",.ref 1),("sorter",.ref 2),("which",.int q.1),("row",C9 q.2),("star",.ref 14),("parts",pv),("name",nV κ)]
def CL (r:List Nat):List Nat:=(List.range 5).filter (D4 r)
def Li (q:Nat × List Nat) (pv:V) (hp:List O):Prop:=∀κ,κ<5->∀E sc,Ih.v (run 37) (.call 201 [pv,.ref 14,nV κ]) ⟨E,sc,1,0,hp⟩=some (.ok (.bool (D4 q.2 κ)) ⟨E,sc,1,0,hp⟩)
theorem vN (hq:q.2∈rows):Li q ((GW q.2).rn 1 13) (BL np sc++[O.obj]):=fun κ C6 E c=>vO hq C6 (X:=(BL np sc).drop 1) E c
theorem vR (hq:Li q pv (BL np sc++[O.obj])) (C6:κ<5):Br 42 (.ts Gf) ⟨LZ q pv κ,Ms,1,0,BL np sc++[O.obj]⟩ (D4 q.2 κ) ⟨LZ q pv κ,Ms,1,0,BL np sc++[O.obj]⟩:=by
 have e:Gf = .Call (e1 Gf) WN [] (eP Gf):=by kernel_rfl
 have h3:=hq κ C6 (LZ q pv κ) Ms
 refine .plain (by kernel_rfl) ?_
 exact Gl (n:=40) (m:=37) (E:=Gf) (g:=e1 Gf) (args:=WN) (p:=eP Gf) (a:=201) (l:=[pv,.ref 14,nV κ]) e (by kernel_rfl) (by kernel_rfl) (fun l=>rfl) ⟨_,by kernel_rfl,.refl _⟩ (.of h3) (by lia)
theorem vP (hq:Li q pv (BL np sc++[O.obj])):Vr 44 (.ev F2) (sS (Ga q pv) (BL np sc++[O.obj])) (.lst ((CL q.2).map nV)) (sS (Ga q pv) (BL np sc++[O.obj])):=by
 have e:F2 = .ListComp (e1 F2) [⟨C7 F2,e2 F2,[Gf],0⟩] (B4 F2) (eP F2):=by kernel_rfl
 rw [e]
 refine Io ?_ (by simp;exact bg (bx _ _) (by decide))
 exact FH (N:=43) (Ai:=.ref 1) (kd:=false) (as:=List.range 5) (vV:=nV) (ea:=fun κ=>⟨LZ q pv κ,Ms,1,0,BL np sc++[O.obj]⟩) (pr:=D4 q.2) (g:=nV)
  (by kernel_rfl) (by kernel_rfl) (fun E DM=>rfl) (fun k _=>CG (E':=Ga q pv) ⟨rfl,rfl,rfl,rfl,rfl,rfl,trivial⟩)
  (fun k _=>Ep (by kernel_rfl)) (fun k hk=>IJ ((vR hq (List.mem_range.mp hk)).up (by lia) (.refl _))) (fun k _ _=>⟨_,by kernel_rfl,.refl _⟩)
end
section
open PySem
variable {n m N f L k j d i p a:Nat} {s t w w1 r w2 w3 s0 w0:S} {v x Ai pv u ov iv:V} {b cl kd:Bool} {as l il:List V} {X AI:List O} {σ α β:Type} {np:Nat->Int} {sc:Nat->List Nat} {q:Nat × List Nat} {B:BC} {sn:List Str} {ds:List (Str × V)} {e I o lo:Expr} {body orelse hb:List Stmt} {ap cp xp hp:Pos} {args:List Expr} {ob:O} {c:String} {b0:Stmt} {fl:Fl} {CD:List Nat} {ts:List En} {E:Loc} {vV:α->V} {stp:σ->α->σ} {Inv:List α->σ->Prop} {c0:σ}
theorem Fr.expr {p:Pos} (hc:EZ e=false) (g:Vr n (.ev e) s v w):Fr (n+1) (.ex (.Expr e p)) s .next w:=by
 obtain ⟨r,e',z⟩:=g
 exact ⟨r,by rw [Av,Lz,hc,aj (by decide),AJ e'];rfl,z⟩
theorem bQ {T:Expr} (e:σ->S) (ta:α->σ->S) {as:List α}
  (Ct:∀r c,Inv r c->Bg Ai (e c)=some (.ok (kd,as.map vV) (e c))) (Gr:∀a c,Ci (run N) (vV a) T (e c)=some (.ok () (ta a c)))
  (hb:∀a r c,a∈as->Inv (a::r) c->(∃fl,(fl = .next\/fl = .cont)/\Fr N (.exs body) (ta a c) fl (e (stp c a)))/\Inv r (stp c a)) :
  ∀(r:List α) (pre:List α) (c:σ) (s:S),as=pre++r->Inv r c->SE (e c) s->∃s',Cm (run N) T body orelse Ai kd as.length r.length s=Ih.f (run N) (.exs orelse) s'/\SE (e (r.foldl stp c)) s'/\Inv [] (r.foldl stp c):=by
 intro r
 induction r with
 |nil=>
  intro pre c s h I z
  have hs:=GP z (Ct _ _ I)
  refine ⟨s,?_,z,I⟩
  show AD (Bs Ai kd as.length as.length) _ s=_
  have ht:Bs Ai kd as.length as.length s=some (.ok none s):=by
   show AD (Bg Ai) _ s=_
   rw [AJ hs]
   simp [AF]
  rw [AJ ht]
 |cons a r ih=>
  intro pre c s h I z
  have hs:=GP z (Ct _ _ I)
  have hl:as.length=pre.length+(r.length+1):=by rw [h];simp
  have ht:Bs Ai kd as.length (as.length-(r.length+1)) s=some (.ok (some (vV a)) s):=by
   show AD (Bg Ai) _ s=_
   rw [AJ hs]
   have hi:(as.map vV)[as.length-(r.length+1)]? = some (vV a):=by
    rw [hl,Nat.add_sub_cancel,h]
    simp
   simp [AF,hi]
  obtain ⟨t,et,zt⟩:=Ep (Gr a c) s z
  obtain ⟨⟨fl,GC,g⟩,I'⟩:=hb a r c (by rw [h];simp) I
  obtain ⟨s2,e2,z2⟩:=g.up (ao N) zt
  obtain ⟨s3,e3,z3⟩:=ih (pre++[a]) (stp c a) s2 (by rw [h];simp) I' z2
  refine ⟨s3,?_,z3⟩
  show AD (Bs Ai kd as.length (as.length-(r.length+1))) _ s=_
  rw [AJ ht]
  show AD (Ci (run N) (vV a) T) _ s=_
  rw [AJ et]
  show AD (Ih.f (run N) (.exs body)) _ t=_
  rw [AJ e2]
  rcases GC with rfl | rfl <;> exact e3
theorem bR {T:Expr} {q:Pos} (e:σ->S) (ta:α->σ->S) {as:List α}
  (hI:Vr n (.ev I) s0 Ai w0) (hw:SE (e c0) w0) (Ct:∀r c,Inv r c->Bg Ai (e c)=some (.ok (kd,as.map vV) (e c))) (Gr:∀a c,Ci (run N) (vV a) T (e c)=some (.ok () (ta a c)))
  (hb:∀a r c,a∈as->Inv (a::r) c->(∃fl,(fl = .next\/fl = .cont)/\Fr m (.exs body) (ta a c) fl (e (stp c a)))/\Inv r (stp c a)) (h0:Inv as c0) (h1:n<=N) (h2:m<=N) (hN:0<N) :
  Fr (N+1) (.ex (.For T I body [] q)) s0 .next (e (as.foldl stp c0))/\Inv [] (as.foldl stp c0):=by
 obtain ⟨r1,e1,z1⟩:=(hI.up h1 (.refl _)).we hw
 obtain ⟨r2,e2,z2,i2⟩:=bQ (N:=N) (T:=T) (body:=body) (orelse:=[]) e ta Ct Gr (fun a r c ha hi=>by
  obtain ⟨⟨fl,hf,g⟩,i⟩:=hb a r c ha hi
  exact ⟨⟨fl,hf,g.up h2 (.refl _)⟩,i⟩) as [] c0 r1 rfl h0 z1
 refine ⟨⟨r2,?_,z2⟩,i2⟩
 rw [Av,Kd,AJ e1,AJ (GP z1 (Ct _ _ h0))]
 dsimp only
 rw [bu,e2]
 obtain ⟨N,rfl⟩:=Nat.exists_eq_add_one_of_ne_zero (Nat.ne_of_gt hN)
 rw [Av,JN];rfl
theorem WM {r:List Nat}:∀j∈CL r,j<5:=fun j hj=>List.mem_range.mp (List.mem_filter.mp hj).1
theorem WL {r:List Nat}:(CL r).length<=5:=bg (bx _ _) (by decide)
theorem Xh (hi:i<5) {T:List Nat} (hT:∀j∈T,j<5) (hl:∀j,(sc j).length+T.length<990) (E:Loc) (c:Sc) :
  Vr 41 (.call 1004 (.ref 2::nV i::T.map nV)) ⟨E,c,1,0,BL np sc++[O.obj]⟩ .none ⟨E,c,1,0,BL (upd np i (np i+T.length)) (Cg i sc T)++[O.obj]⟩:=by
 have g:=((Xk (po:=0) (fin:=0) (np:=np) hi hT hl [] c).ins (L:=14) (k:=1) (X:=[O.obj]) (ao 14) rfl).AA (E:=E) (sc:=c)
 have e1:V.Af 14 1 (.ref 2::nV i::T.map nV) = .ref 2::nV i::T.map nV:=congrArg (V.ref 2::nV i :: ·) (G4 T)
 have e2:ins 14 1 [O.obj] (HS .none 0 0 np sc)=BL np sc++[O.obj]:=KI 1 _
 have e3:ins 14 1 [O.obj] (HS .none 0 0 (upd np i (np i+T.length)) (Cg i sc T))=BL (upd np i (np i+T.length)) (Cg i sc T)++[O.obj]:=KI 1 _
 unfold S.ins at g
 dsimp only at g
 rw [e2,e3] at g
 rw [e1] at g
 exact g
theorem tV (h1:q.1<5) (hq:Li q pv (BL np sc++[O.obj])) (hl:∀j,(sc j).length<900) :
  Fr 50 (.ex (so 2)) (sS (Ga q pv) (BL np sc++[O.obj])) .next (sS (Ga q pv) (BL (upd np q.1 (np q.1+(CL q.2).length)) (Cg q.1 sc (CL q.2))++[O.obj])):=by
 have e:so 2 = .Expr (.Call (.Attribute Xb "add" Xa) [JD,.Starred F2 Xc] [] (eP KQ)) (sP (so 2)):=by kernel_rfl
 rw [e]
 have gw:Vr 9 (.ev JD) (sS (Ga q pv) (BL np sc++[O.obj])) (nV q.1) (sS (Ga q pv) (BL np sc++[O.obj])):=by
  refine .of ?_
  rw [show JD = .Subscript (e1 JD) (e2 JD) (eP JD) from by kernel_rfl,J3 (n:=8) (ov:=.ref 1) (iv:=.int q.1) (by kernel_rfl) (by kernel_rfl) (by kernel_rfl)]
  refine item_list (l:=kn) rfl ?_
  unfold kn
  rw [List.getElem?_map,List.getElem?_range h1];rfl
 refine .expr (by rfl) (Jd (n:=48) (m:=41) (f:=1004) (as:=nV q.1::(CL q.2).map nV) (i:=2) (w1:=sS (Ga q pv) (BL np sc++[O.obj])) (by kernel_rfl) (by kernel_rfl) (l:=[("_node2info",.ref 3),("_ready_nodes",.none),("_npassedout",.int 0),("_nfinished",.int 0)]) rfl (by kernel_rfl) (by kernel_rfl)
  (aF (n:=9) (m:=44) (by kernel_rfl) gw (vP hq) (by lia) (by lia)) (Xh h1 WM (fun j=>by have:=hl j;have:=WL (r:=q.2);lia) _ _) (by lia))
def Fo (c:(Nat->Int) × (Nat->List Nat) × Nat) (q:Nat × List Nat):(Nat->Int) × (Nat->List Nat) × Nat:=(upd c.1 q.1 (c.1 q.1+(CL q.2).length),Cg q.1 c.2.1 (CL q.2),c.2.2+1)
theorem tW (h1:q.1<5) (hq:q.2∈rows) (hl:∀j,(sc j).length<900) :
  Fr 60 (.exs (sA EJ)) (sS (JC q) (BL np sc)) .next (sS ES (BL (upd np q.1 (np q.1+(CL q.2).length)) (Cg q.1 sc (CL q.2))++[O.obj])):=by
 have e:sA EJ=[so 0,so 1,so 2]:=by kernel_rfl
 rw [e]
 exact .exs tT (.exs (tU hq) (.exs (tV h1 (vN hq) hl) (Fr.nil.we (CG ⟨rfl,rfl,trivial⟩)) (ao 50) (by lia)) (by lia:40<=51) (by lia)) (by lia:8<=59) (by lia)
noncomputable def Bt (j:Nat):List O:=List.replicate j .obj
theorem tX (j:Nat) (h1:q.1<5) (hq:q.2∈rows) (hl:∀j,(sc j).length<900) :
  Fr 60 (.exs (sA EJ)) (sS (JC q) (BL np sc++Bt j)) .next (sS ES (BL (upd np q.1 (np q.1+(CL q.2).length)) (Cg q.1 sc (CL q.2))++Bt (j+1))):=by
 have g:=(tW (np:=np) h1 hq hl).ins (L:=14) (k:=j) (X:=Bt j) (ao 14) (by simp [Bt])
 unfold S.ins at g
 dsimp only at g
 rw [KI,NW] at g
 have e1:V.BI 14 j (JC q)=JC q:=by
  show [_,_,_,_]=_
  have:V.rn 14 j (C9 q.2)=C9 q.2:=by
   unfold C9
   exact congrArg V.lst ((Dn _).trans (List.map_map ..))
  rw [this];rfl
 have e2:V.BI 14 j ES=ES:=by rfl
 have e3:(Bt j++[O.obj])=Bt (j+1):=by unfold Bt;rw [List.replicate_succ']
 rw [e1,e2] at g
 rw [<-e3,<-List.append_assoc]
 exact g
def Ag (rs:List (Nat × List Nat)):(Nat->Int) × (Nat->List Nat) × Nat:=rs.foldl Fo (fun _=>0,fun _=>[],0)
theorem Xf (i:Nat):∀(T:List Nat) (sc:Nat->List Nat) (k:Nat),(Cg i sc T k).length<=(sc k).length+T.length:=by
 intro T_
 induction T_ with
 |nil=>
  intro sc k
  exact ao _
 |cons j T AU=>
  intro sc k
  have h1:=AU (upd sc j (sc j++[i])) k
  have h2:=We (sc:=sc) (i:=i) (j:=j) k
  show (Cg i (upd sc j (sc j++[i])) T k).length<=_
  simp only [List.length_cons]
  lia
theorem uD (rs:List (Nat × List Nat)) (hg:∀r∈rs,r.1<5/\r.2∈rows) (hl:rs.length<=100) :
  Fr 70 (.exs (A0 216)) (sS [("files",.ref 1),("rules",R0 rs)] hp2) (.ret (.ref 2)) (sS ES (BL (Ag rs).1 (Ag rs).2.1++Bt (Ag rs).2.2)):=by
 have e:A0 216=[at_ (A0 216) 0,at_ (A0 216) 1]++[EJ,at_ (A0 216) 3]:=by kernel_rfl
 have eF:EJ = .For (sT EJ) (sE EJ) (sA EJ) [] (sP EJ):=by kernel_rfl
 have g0:Fr 30 (.exs [at_ (A0 216) 0,at_ (A0 216) 1]) (sS [("files",.ref 1),("rules",R0 rs)] hp2) .next (sS [("files",.ref 1),("rules",R0 rs),("sorter",.ref 2)] (BL (fun _=>0) (fun _=>[])++Bt 0)):=by
  have g:Fr 30 (.exs [at_ (A0 216) 0,at_ (A0 216) 1]) (sS [("files",.ref 1),("rules",R0 rs)] hp2) .next (sS [("files",.ref 1),("rules",R0 rs),("sorter",.ref 2),("name",nV 4)] (BL (fun _=>0) (fun _=>[])++Bt 0)):=.of (by kernel_rfl)
  exact g.we (CG ⟨rfl,rfl,rfl,trivial⟩)
 obtain ⟨gF,_⟩:=bR (n:=8) (m:=60) (N:=61) (T:=sT EJ) (q:=sP EJ) (I:=sE EJ) (body:=sA EJ) (fun c:(Nat->Int) × (Nat->List Nat) × Nat=>sS ES (BL c.1 c.2.1++Bt c.2.2)) (fun (q:Nat × List Nat) c=>sS (JC q) (BL c.1 c.2.1++Bt c.2.2)) (Ai:=R0 rs) (kd:=false) (as:=rs) (vV:=rv) (stp:=Fo)
  (Inv:=fun r c=>∀j,(c.2.1 j).length+5*r.length<=600) (c0:=(fun _=>0,fun _=>[],0)) (s0:=sS [("files",.ref 1),("rules",R0 rs),("sorter",.ref 2)] (BL (fun _=>0) (fun _=>[])++Bt 0)) (w0:=sS [("files",.ref 1),("rules",R0 rs),("sorter",.ref 2)] (BL (fun _=>0) (fun _=>[])++Bt 0))
  (.of (by kernel_rfl)) (CG ⟨rfl,rfl,trivial⟩) (fun _ _ _=>rfl) (fun q c=>by kernel_rfl) (fun q r c hq inv=>by
   refine ⟨⟨.next,.inl rfl,tX c.2.2 (hg q hq).1 (hg q hq).2 (fun j=>by have:=inv j;simp at this;lia)⟩,fun j=>?_⟩
   have h1:=inv j
   have h2:=Xf q.1 (CL q.2) c.2.1 j
   have h3:=WL (r:=q.2)
   show (Cg q.1 c.2.1 (CL q.2) j).length+5*r.length<=600
   simp at h1
   lia) (fun j=>by show 0+5*rs.length<=600;lia) (by lia) (by lia) (by lia)
 rw [<-eF] at gF
 have gr:Fr 6 (.exs [at_ (A0 216) 3]) (sS ES (BL (Ag rs).1 (Ag rs).2.1++Bt (Ag rs).2.2)) (.ret (.ref 2)) (sS ES (BL (Ag rs).1 (Ag rs).2.1++Bt (Ag rs).2.2)):=.of (by kernel_rfl)
 rw [e]
 exact g0.app (gF.exs gr (ao 62) (by lia)) (by lia) (by simp)
theorem uE (rs:List (Nat × List Nat)) (hg:∀r∈rs,r.1<5/\r.2∈rows) (hl:rs.length<=100) (E:Loc) (c:Sc) :
  Vr 71 (.call 216 [.ref 1,R0 rs]) ⟨E,c,1,0,hp2⟩ (.ref 2) ⟨E,c,1,0,BL (Ag rs).1 (Ag rs).2.1++Bt (Ag rs).2.2⟩:=by
 refine Ht (fl:=.ret (.ref 2)) (w:=sS ES (BL (Ag rs).1 (Ag rs).2.1++Bt (Ag rs).2.2)) (l:=[("files",.ref 1),("rules",R0 rs)]) (by kernel_rfl) ?_ (by kernel_rfl) (uD rs hg hl) (ao _) rfl
 have e:Bh (Aj 216) [.ref 1,R0 rs]=some ([("files",.ref 1),("rules",R0 rs)]:Loc):=by kernel_rfl
 exact e
theorem DR {o:O} (h:w.hp[i]? = some o):A4 i w=some (.ok o w):=by unfold A4;rw [h]
theorem Fi {o:O} (h:w.lo<=i):BJ i o w=some (.ok () {w with hp:=w.hp.set i o}):=by unfold BJ;rw [ak h]
theorem VV (h:w.lo<=i) (hl:l.length<=1000):CO i l w=some (.ok () {w with hp:=w.hp.set i (.list l)}):=by
 unfold CO;rw [ak hl];exact Fi h
theorem Nk (h:w.hp[i]? = some (.list l)) (hl:l.length<1000) (lo:w.lo<=i):GL ("list","list.append") i "append" [x] w=some (.ok .none {w with hp:=w.hp.set i (.list (l++[x]))}):=by
 show AD (A4 i) _ w=_
 rw [AJ (DR h)]
 show AD (A4 i) _ w=_
 rw [AJ (DR h)]
 show AD (CO i (l++[x])) _ w=_
 rw [AJ (VV lo (by simp;lia))]
 rfl
theorem Ra (h:w.hp[i]? = some (.list (l++[x]))) (hl:l.length<=1000) (lo:w.lo<=i):GL ("list","list.pop") i "pop" [] w=some (.ok x {w with hp:=w.hp.set i (.list l)}):=by
 show AD (A4 i) _ w=_
 rw [AJ (DR h)]
 show AD (A4 i) _ w=_
 rw [AJ (DR h)]
 show (match (l++[x]).getLast? with | some v=>AD (CO i (l++[x]).dropLast) (fun _=>AF v) | .none=>AG) w=_
 rw [List.getLast?_concat,List.dropLast_concat]
 dsimp only
 rw [AJ (VV lo hl)]
 rfl
theorem Xy {l:List Str} {x:Str} (h:w.hp[i]? = some (.set l)) (hl:l.length<1000) (lo:w.lo<=i) (hx:l.contains x=false):GL ("set","set.add") i "add" [.str x] w=some (.ok .none {w with hp:=w.hp.set i (.set (l++[x]))}):=by
 show AD (A4 i) _ w=_
 rw [AJ (DR h)]
 show AD (A4 i) _ w=_
 rw [AJ (DR h)]
 show GR i l "add" [.str x] w=_
 unfold GR
 dsimp only
 rw [ak ⟨rfl,hl⟩,hx,aj (by decide),AJ (Fi lo)]
 rfl
theorem X4 {p:String × String} {nm:String} (h:GL p i nm as w=some (.ok v w1)) (z:SE w r):∃r',GL p i nm as r=some (.ok v r')/\SE w1 r':=by
 have:=Vo (L:=0) (k:=0) (X:=[]) (p:=p) (i:=i) (nm:=nm) (as:=as)
 rw [V.GO,Mine.BW] at this
 exact DN (V.BW 0) this z h
theorem Jc {nm:Str} {p:String × String} (hp:(DK o&&ap.endLine==cp.line)=true) (ff:(match ob with | .inst _=>false | _=>true)=true) (ho:Vr n (.ev o) s (.ref i) w1) (hi:w1.hp[i]? = some ob) (hk:CF ob (Cc nm)=some p) (FT:DW args=true)
  (he:∃r,BG (run m) args w1=some (.ok as r)/\SE w2 r) (hm:GL p i (Cc nm) as w2=some (.ok v w3)) (h1:n<=N) (h2:m<=N):Vr (N+1) (.ev (.Call (.Attribute o nm ap) args [] cp)) s v w3:=by
 obtain ⟨r1,e1,z1⟩:=ho.up h1 (.refl s)
 obtain ⟨q,eq,zq⟩:=he
 obtain ⟨r2,e2,z2⟩:=DN (fun l=>V.GO 0 l) (GS (EH (L:=0) (k:=0) (X:=[]) h2) args) z1 eq
 obtain ⟨r3,e3,z3⟩:=X4 hm (zq.trans z2)
 refine ⟨r3,?_,z3⟩
 rw [Av,EP]
 show (if DK o&&ap.endLine==cp.line then Gi (run N) o nm args else AG) s=_
 rw [ak hp,Lp,AJ e1]
 show AD (A4 i) _ r1=_
 rw [AJ (DR (w:=r1) (by rw [z1.hp];exact hi))]
 induction ob using O.casesOn <;> first | (cases ff;done) | (show Fe (run N) i _ nm args r1=_;unfold Fe;rw [hk];dsimp only;rw [ak FT,AJ e2];exact e3)
theorem JK (hs:Bk e=false) (g:Vr n (.ev e) s x w):∃r,BG (run n) [e] s=some (.ok [x] r)/\SE w r:=by
 obtain ⟨r,e',z⟩:=g
 exact ⟨r,by rw [F9 hs,AJ e'];rfl,z⟩
theorem IV:∃r,BG (run n) [] s=some (.ok [] r)/\SE s r:=⟨s,rfl,.refl s⟩
theorem RY {ts:List Expr} {q:Pos} (O8:EC ts e=true) (g:Vr n (if Dl e then .evm e else .ev e) s v w) (ha:HO (run m) v ts w=some (.ok () w1)) (h1:n<=N) (h2:m<=N):Fr (N+1) (.ex (.Assign ts e q)) s .next w1:=by
 obtain ⟨r,e',z⟩:=g.up h1 (.refl s)
 have:=Va (EH (L:=0) (k:=0) (X:=[]) h2) (v:=v) ts
 rw [V.BW] at this
 obtain ⟨r2,e2,z2⟩:=DN (fun _=>rfl) this z ha
 exact ⟨r2,by rw [Av,IW O8,AJ e',AJ e2];rfl,z2⟩
theorem qo {l:List (Str × V)} {c:Bool} {x:Str} (h:w.hp[i]? = some (.dict l c)) (hl:(Ao x u l).length<=1000) (lo:w.lo<=i):I0 (.ref i) (.str x) u w=some (.ok () {w with hp:=w.hp.set i (.dict (Ao x u l) c)}):=by
 show AD (A4 i) _ w=_
 rw [AJ (DR h)]
 show (if (Ao x u l).length<=1000 then BJ i (.dict (Ao x u l) c) else AG) w=_
 rw [ak hl]
 exact Fi lo
theorem ZX {l:List (Str × V)} {c:Bool} {x:Str} (h:w.hp[i]? = some (.dict l c)) (hl:(AN x l).isSome=true) (lo:w.lo<=i):F6 (.ref i) (.str x) w=some (.ok () {w with hp:=w.hp.set i (.dict (CX x l) false)}):=by
 show AD (A4 i) _ w=_
 rw [AJ (DR h)]
 show (if (AN x l).isSome then BJ i (.dict (CX x l) false) else AG) w=_
 rw [ak hl]
 exact Fi lo
theorem Fr.del {i:Expr} {p q:Pos} (g1:Vr n (.ev o) s ov w1) (g2:Vr m (.ev i) w1 iv w2) (h:F6 ov iv w2=some (.ok () w3)) (h1:n<=N) (h2:m<=N):Fr (N+1) (.ex (.Delete [.Subscript o i p] q)) s .next w3:=by
 obtain ⟨r1,e1,z1⟩:=g1.up h1 (.refl s)
 obtain ⟨r2,e2,z2⟩:=g2.up h2 z1
 have:=Vg (L:=0) (k:=0) (X:=[]) (o:=ov) (i:=iv)
 rw [V.BW,V.BW] at this
 obtain ⟨r3,e3,z3⟩:=DN (fun _=>rfl) this z2 h
 exact ⟨r3,by rw [Av,SV,AJ e1,AJ e2,AJ e3];rfl,z3⟩
def Fx (n:Nat) (a:T) (s:S) (c:String) (w:S):Prop:=∃r,Ih.f (run n) a s=some (.ex c r)/\SE w r
def Vx (n:Nat) (a:T) (s:S) (c:String) (w:S):Prop:=∃r,Ih.v (run n) a s=some (.ex c r)/\SE w r
theorem Fx.up {a:T} (g:Fx n a s c w) (h:n<=m) (x:SE s t):Fx m a t c w:=by
 obtain ⟨r,e,z⟩:=g
 obtain ⟨r',e',z'⟩:=wz h x e
 exact ⟨r',e',z.trans z'⟩
theorem Vx.up {a:T} (g:Vx n a s c w) (h:n<=m) (x:SE s t):Vx m a t c w:=by
 obtain ⟨r,e,z⟩:=g
 obtain ⟨r',e',z'⟩:=w4 h x e
 exact ⟨r',e',z.trans z'⟩
theorem Fx.exs {x:Stmt} {l:List Stmt} {c:String} (g:Fx n (.ex x) s c w):Fx (n+1) (.exs (x::l)) s c w:=by
 obtain ⟨r,e,z⟩:=g
 exact ⟨r,by rw [Av,JM,Bu e],z⟩
theorem Fr.wF {x:Str} {p:Pos} (hx:Cd x=true) (g:Fr n (.exs body) s fl w) (hf:fl≠.next):Fr (n+1) (.ex (.Try body [.ExceptHandler (some (.Name x xp)) none (b0::hb) hp] [] [] p)) s fl w:=by
 obtain ⟨r,e,z⟩:=g
 refine ⟨r,?_,z⟩
 rw [Av,IX]
 show (if Cd x then IC (run n) body x (b0::hb) [] else AG) s=_
 rw [ak hx]
 refine (Hv e).trans ?_
 induction fl using Fl.casesOn <;> first | rfl | exact (hf rfl).elim
theorem Fr.wG {x:Str} {p:Pos} (hx:Cd x=true) (g:Fr n (.exs body) s .next w) (hn:0<n):Fr (n+1) (.ex (.Try body [.ExceptHandler (some (.Name x xp)) none (b0::hb) hp] [] [] p)) s .next w:=by
 obtain ⟨r,e,z⟩:=g
 refine ⟨r,?_,z⟩
 rw [Av,IX]
 show (if Cd x then IC (run n) body x (b0::hb) [] else AG) s=_
 rw [ak hx]
 refine (Hv e).trans ?_
 obtain ⟨n,rfl⟩:=Nat.exists_eq_add_one_of_ne_zero (Nat.ne_of_gt hn)
 rfl
theorem Fr.WW {x:Str} {p:Pos} (hx:Cd x=true) (g:Fx n (.exs body) s c w) (hc:IQ x c=true) (hs:w.sc.lookup x=some .globalImplicit) (g2:Fr m (.exs (b0::hb)) {w with hd:=2} fl w2) (h1:n<=N) (h2:m<=N) :
  Fr (N+1) (.ex (.Try body [.ExceptHandler (some (.Name x xp)) none (b0::hb) hp] [] [] p)) s fl {w2 with hd:=s.hd}:=by
 obtain ⟨r,e,z⟩:=g.up h1 (.refl s)
 obtain ⟨r2,e2,z2⟩:=g2.up h2 (t:={r with hd:=2}) ⟨z.sc,rfl,z.lo,z.hp,z.AA⟩
 refine ⟨{r2 with hd:=s.hd},?_,z2.sc,rfl,z2.lo,z2.hp,z2.AA⟩
 rw [Av,IX]
 show (if Cd x then IC (run N) body x (b0::hb) [] else AG) s=_
 rw [ak hx]
 refine (Jl e).trans ((ak ⟨hc,by rw [z.sc];exact hs⟩).trans ?_)
 exact Hv (m:=IK 2 ((run N).f (.exs (b0::hb)))) e2
theorem Xw {i:Expr} {p:Pos} (h1:Ih.v (run m) (.ev o) w=some (.ok ov w)) (h2:Ih.v (run m) (.ev i) w=some (.ok iv w)) (h3:I0 ov iv v w=some (.ok () w1)):HO (run m) v [.Subscript o i p] w=some (.ok () w1):=by
 show AD (AD (Ih.v (run m) (.ev o)) fun ov=>AD (Ih.v (run m) (.ev i)) fun iv=>I0 ov iv v) _ w=_
 rw [A9,AJ h1,A9,AJ h2,AJ h3]
 rfl
theorem item_last (h:w.hp[i]? = some (.list (l++[x]))):item (.ref i) (.int (-1)) w=some (.ok x w):=by
 show AD (items (.ref i)) _ w=_
 rw [AJ (JX h)]
 have h2:place (l++[x]).length (-1)=some l.length:=by
  show (if 0+1<=(l++[x]).length then some ((l++[x]).length-(0+1)) else none)=_
  rw [ak (by simp)]
  simp
 rw [h2]
 show BR ((l++[x])[l.length]?) w=_
 rw [List.getElem?_concat_length]
 rfl
theorem Vr.bm {g:Expr} {p:Pos} {nm:String} {i:Nat} (hf:GI g=false) (h1:Vr n (.ev g) s (.bm nm i) w1) (h2:method i nm [] w1=some (.ok v w)):Vr (n+1) (.ev (.Call g [] [] p)) s v w:=by
 obtain ⟨r1,e1,z1⟩:=h1
 have:=Mz (L:=0) (k:=0) (X:=[]) (i:=i) (nm:=nm) (as:=[])
 rw [V.GO,Mine.BW] at this
 obtain ⟨r2,e2,z2⟩:=DN (V.BW 0) this z1 h2
 refine ⟨r2,?_,z2⟩
 rw [Av,EP]
 show Dy (run n) g [] p s=_
 rw [HU hf,AJ e1]
 exact e2
theorem Vx.bm {g:Expr} {p:Pos} {nm:String} {i:Nat} {c:String} (hf:GI g=false) (h1:Vr n (.ev g) s (.bm nm i) w1) (h2:method i nm [] w1=some (.ex c w)):Vx (n+1) (.ev (.Call g [] [] p)) s c w:=by
 obtain ⟨r1,e1,z1⟩:=h1
 have:=Mz (L:=0) (k:=0) (X:=[]) (i:=i) (nm:=nm) (as:=[])
 rw [V.GO,Mine.BW] at this
 obtain ⟨r2,e2,z2⟩:=QU this z1 h2
 refine ⟨r2,?_,z2⟩
 rw [Av,EP]
 show Dy (run n) g [] p s=_
 rw [HU hf,AJ e1]
 exact e2
theorem Fx.assign {ts:List Expr} {q:Pos} (hp:EC ts e=true) (hm:Dl e=false) (g:Vx n (.ev e) s c w):Fx (n+1) (.ex (.Assign ts e q)) s c w:=by
 obtain ⟨r,e',z⟩:=g
 exact ⟨r,by rw [Av,IW hp,hm,aj (by decide),Bu e'],z⟩
theorem Ud (h:w.hp[i]? = some (.iter a k)):method i "__next__" [] w=Fd i a k w:=by
 show AD (A4 i) _ w=_
 rw [AJ (DR h)]
 show Hl i a k "__next__" [] w=_
 unfold Hl
 dsimp only
 rw [ak rfl]
theorem nO {L:List V} (h:w.hp[i]? = some (.iter a k)) (ha:w.hp[a]? = some (.list L)) (hk:L[k]? = some x) (lo:w.lo<=i):method i "__next__" [] w=some (.ok x {w with hp:=w.hp.set i (.iter a (k+1))}):=by
 rw [Ud h]
 show AD (A4 a) _ w=_
 rw [AJ (DR ha)]
 dsimp only
 rw [hk]
 dsimp only
 rw [AJ (Fi lo)]
 rfl
theorem nN {L:List V} (h:w.hp[i]? = some (.iter a k)) (ha:w.hp[a]? = some (.list L)) (hk:L[k]? = none) (lo:w.lo<=i) (h0:w.hd=0):method i "__next__" [] w=some (.ex "StopIteration" {w with hp:=w.hp.set i .gone}):=by
 rw [Ud h]
 show AD (A4 a) _ w=_
 rw [AJ (DR ha)]
 dsimp only
 rw [hk]
 dsimp only
 rw [AJ (Fi lo)]
 unfold DL
 rw [ak h0]
def By:Stmt:=at_ (A0 1008) 5
noncomputable def C5:Stmt:=at_ (sA By) 1
def wI:Stmt:=at_ (sA C5) 0
def wW:Stmt:=at_ (sA C5) 1
def wR:Stmt:=at_ (sA wI) 0
def pu (i:Nat):Stmt:=at_ (sB wI) i
def wT:Stmt:=at_ (sA wW) 0
def tH:List Stmt:=match wT with | .Try _ [.ExceptHandler _ _ b _] _ _ _=>b | _=>[]
def qX:Sc:=(Aj 1008).sc
noncomputable abbrev EF (x:V):Loc:=[("n2i",.ref 3),("stack",.ref 15),("itstack",.ref 16),("seen",.ref 17),("node2stacki",.ref 18),("node",x)]
noncomputable abbrev CM:Loc:=[("n2i",.ref 3),("stack",.ref 15),("itstack",.ref 16),("seen",.ref 17),("node2stacki",.ref 18)]
abbrev fS (d:Nat) (E:Loc) (hp:List O):S:=⟨E,qX,15,d,hp⟩
noncomputable def eO:Stmt->Expr
 | .Expr (.Call (.Attribute o _ _) _ _ _) _=>o
 |_=>default
noncomputable def KZ:Stmt->Pos
 | .Expr (.Call (.Attribute _ _ p) _ _ _) _=>p
 |_=>default
structure BC where
 po:Int
 fin:Int
 np:Nat->Int
 sc:Nat->List Nat
 rl:List V
noncomputable def hq (B:BC) (l il:List V) (sn:List Str) (ds:List (Str × V)) (cl:Bool) (AI:List O):List O:=
 HS (.ref 14) B.po B.fin B.np B.sc++(.list B.rl :: .list l :: .list il :: .set sn :: .dict ds cl::AI)
theorem K1:(hq B l il sn ds cl AI)[15]? = some (.list l):=rfl
theorem K2:(hq B l il sn ds cl AI)[16]? = some (.list il):=rfl
theorem TU:(hq B l il sn ds cl AI)[17]? = some (.set sn):=rfl
theorem PA:(hq B l il sn ds cl AI)[18]? = some (.dict ds cl):=rfl
theorem PB (k:Nat):(hq B l il sn ds cl AI)[k+19]? = AI[k]?:=rfl
theorem TV (hj:j<5):(hq B l il sn ds cl AI)[5+2*j]? = some (.list ((B.sc j).map nV)):=by
 refine five j hj ?_ ?_ ?_ ?_ ?_ <;> rfl
theorem qg:Br 8 (.ts (sE (at_ (sA By) 0))) (fS 0 (EF (nV j)) (hq B l il sn ds cl AI)) (sn.contains (nm j)) (fS 0 (EF (nV j)) (hq B l il sn ds cl AI)):=.of (by kernel_rfl)
theorem VT:Br 8 (.ts (sE wI)) (fS 0 (EF (nV j)) (hq B l il sn ds cl AI)) (sn.contains (nm j)) (fS 0 (EF (nV j)) (hq B l il sn ds cl AI)):=.of (by kernel_rfl)
theorem UZ:Br 8 (.ts (sE wR)) (fS 0 (EF (nV j)) (hq B l il sn ds cl AI)) ((AN (nm j) ds).isSome) (fS 0 (EF (nV j)) (hq B l il sn ds cl AI)):=.of (by kernel_rfl)
theorem V3:Br 8 (.ts (sE wW)) (fS 0 (EF x) (hq B l il sn ds cl AI)) (!l.isEmpty) (fS 0 (EF x) (hq B l il sn ds cl AI)):=.of (by kernel_rfl)
theorem oW (hl:sn.length<1000) (hx:sn.contains (nm j)=false):Fr 14 (.ex (pu 0)) (fS 0 (EF (nV j)) (hq B l il sn ds cl AI)) .next (fS 0 (EF (nV j)) (hq B l il (sn++[nm j]) ds cl AI)):=by
 have e:pu 0 = .Expr (.Call (.Attribute (eO (pu 0)) "add" (KZ (pu 0))) [e2 (sE (pu 0))] [] (eP (sE (pu 0)))) (sP (pu 0)):=by kernel_rfl
 rw [e]
 have g:Vr 4 (.ev (eO (pu 0))) (fS 0 (EF (nV j)) (hq B l il sn ds cl AI)) (.ref 17) (fS 0 (EF (nV j)) (hq B l il sn ds cl AI)):=.of (by kernel_rfl)
 have ga:Vr 4 (.ev (e2 (sE (pu 0)))) (fS 0 (EF (nV j)) (hq B l il sn ds cl AI)) (nV j) (fS 0 (EF (nV j)) (hq B l il sn ds cl AI)):=.of (by kernel_rfl)
 exact .expr (by rfl) (Jc (N:=12) (n:=4) (m:=4) (ob:=.set sn) (p:=("set","set.add")) (by kernel_rfl) rfl g TU (by kernel_rfl) (by kernel_rfl) (JK (by kernel_rfl) ga)
  (Xy (w:=fS 0 (EF (nV j)) (hq B l il sn ds cl AI)) TU hl (show 15<=17 by decide) hx) (by lia) (by lia))
theorem oY (hj:j<5):Ih.v (run 15) (.ev (e1 (e2 (sE (pu 1))))) (fS 0 (EF (nV j)) (hq B l il sn ds cl AI))=some (.ok (.ref (AI.length+19)) (fS 0 (EF (nV j)) (hq B l il sn ds cl (AI++[O.iter (5+2*j) 0])))):=by
 refine five j hj ?_ ?_ ?_ ?_ ?_ <;> kernel_rfl
theorem oX (hj:j<5):Ih.v (run 16) (.ev (e2 (sE (pu 1)))) (fS 0 (EF (nV j)) (hq B l il sn ds cl AI))=some (.ok (.bm "__next__" (AI.length+19)) (fS 0 (EF (nV j)) (hq B l il sn ds cl (AI++[O.iter (5+2*j) 0])))):=by
 have e:e2 (sE (pu 1)) = .Attribute (e1 (e2 (sE (pu 1)))) "__next__" (eP (e2 (sE (pu 1)))):=by kernel_rfl
 rw [e,Av,SJ,ak (by kernel_rfl),AJ (oY hj)]
 have hi:(hq B l il sn ds cl (AI++[O.iter (5+2*j) 0]))[AI.length+19]? = some (.iter (5+2*j) 0):=by
  rw [PB];simp
 show AD (A4 (AI.length+19)) _ _=_
 rw [AJ (DR hi)]
 rfl
theorem pu1 (hj:j<5) (hl:il.length<1000):Fr 20 (.ex (pu 1)) (fS 0 (EF (nV j)) (hq B l il sn ds cl AI)) .next (fS 0 (EF (nV j)) (hq B l (il++[.bm "__next__" (AI.length+19)]) sn ds cl (AI++[O.iter (5+2*j) 0]))):=by
 have e:pu 1 = .Expr (.Call (.Attribute (eO (pu 1)) "append" (KZ (pu 1))) [e2 (sE (pu 1))] [] (eP (sE (pu 1)))) (sP (pu 1)):=by kernel_rfl
 have ge:=oX (B:=B) (l:=l) (il:=il) (sn:=sn) (ds:=ds) (cl:=cl) (AI:=AI) hj
 rw [e]
 have g:Vr 4 (.ev (eO (pu 1))) (fS 0 (EF (nV j)) (hq B l il sn ds cl AI)) (.ref 16) (fS 0 (EF (nV j)) (hq B l il sn ds cl AI)):=.of (by kernel_rfl)
 exact .expr (by rfl) (Jc (N:=18) (n:=4) (m:=16) (ob:=.list il) (p:=("list","list.append")) (by kernel_rfl) rfl g K2 (by kernel_rfl) (by kernel_rfl) (JK (by kernel_rfl) (.of ge))
  (Nk (w:=fS 0 (EF (nV j)) (hq B l il sn ds cl (AI++[O.iter (5+2*j) 0]))) (x:=.bm "__next__" (AI.length+19)) (l:=il) K2 hl (show 15<=16 by decide)) (by lia) (by lia))
theorem pu2 (hl:(Ao (nm j) (.int l.length) ds).length<=1000):Fr 14 (.ex (pu 2)) (fS 0 (EF (nV j)) (hq B l il sn ds cl AI)) .next (fS 0 (EF (nV j)) (hq B l il sn (Ao (nm j) (.int l.length) ds) cl AI)):=by
 have e:pu 2 = .Assign [.Subscript (e1 (sT (pu 2))) (e2 (sT (pu 2))) (eP (sT (pu 2)))] (sE (pu 2)) (sP (pu 2)):=by kernel_rfl
 have g:Vr 8 (if Dl (sE (pu 2)) then .evm (sE (pu 2)) else .ev (sE (pu 2))) (fS 0 (EF (nV j)) (hq B l il sn ds cl AI)) (.int l.length) (fS 0 (EF (nV j)) (hq B l il sn ds cl AI)):=.of (by kernel_rfl)
 rw [e]
 exact RY (N:=13) (m:=6) (by kernel_rfl) g (Xw (ov:=.ref 18) (iv:=nV j) (by kernel_rfl) (by kernel_rfl) (qo (w:=fS 0 (EF (nV j)) (hq B l il sn ds cl AI)) PA hl (show 15<=18 by decide))) (by lia) (by lia)
theorem oZ (hl:l.length<1000):Fr 14 (.ex (pu 3)) (fS 0 (EF (nV j)) (hq B l il sn ds cl AI)) .next (fS 0 (EF (nV j)) (hq B (l++[nV j]) il sn ds cl AI)):=by
 have e:pu 3 = .Expr (.Call (.Attribute (eO (pu 3)) "append" (KZ (pu 3))) [e2 (sE (pu 3))] [] (eP (sE (pu 3)))) (sP (pu 3)):=by kernel_rfl
 rw [e]
 have g:Vr 4 (.ev (eO (pu 3))) (fS 0 (EF (nV j)) (hq B l il sn ds cl AI)) (.ref 15) (fS 0 (EF (nV j)) (hq B l il sn ds cl AI)):=.of (by kernel_rfl)
 have ga:Vr 4 (.ev (e2 (sE (pu 3)))) (fS 0 (EF (nV j)) (hq B l il sn ds cl AI)) (nV j) (fS 0 (EF (nV j)) (hq B l il sn ds cl AI)):=.of (by kernel_rfl)
 exact .expr (by rfl) (Jc (N:=12) (n:=4) (m:=4) (ob:=.list l) (p:=("list","list.append")) (by kernel_rfl) rfl g K1 (by kernel_rfl) (by kernel_rfl) (JK (by kernel_rfl) ga)
  (Nk (w:=fS 0 (EF (nV j)) (hq B l il sn ds cl AI)) K1 hl (show 15<=15 by decide)) (by lia) (by lia))
theorem ow (hj:j<5) (h1:sn.length<900) (h2:il.length<900) (h3:l.length<900) (h4:ds.length<900) (hx:sn.contains (nm j)=false) (hd:Ao (nm j) (.int l.length) ds=ds++[(nm j,.int l.length)]) :
  Fr 26 (.exs (sB wI)) (fS 0 (EF (nV j)) (hq B l il sn ds cl AI)) .next (fS 0 (EF (nV j)) (hq B (l++[nV j]) (il++[.bm "__next__" (AI.length+19)]) (sn++[nm j]) (ds++[(nm j,.int l.length)]) cl (AI++[O.iter (5+2*j) 0]))):=by
 have e:sB wI=[pu 0,pu 1,pu 2,pu 3]:=by kernel_rfl
 rw [e,<-hd]
 exact .exs (oW (by lia) hx) (.exs (pu1 hj (by lia)) (.exs (pu2 (by rw [hd];simp;lia)) (.exs (oZ (by lia)) .nil (ao 14) (by lia)) (by lia:14<=15) (by lia)) (by lia:20<=24) (by lia)) (by lia:14<=25) (by lia)
def tA:List Stmt:=sA wT
def DO:Stmt:=at_ tA 0
def vD:Pos:=match wT with | .Try _ [.ExceptHandler (some (.Name _ p)) _ _ _] _ _ _=>p | _=>default
def vC:Pos:=match wT with | .Try _ [.ExceptHandler _ _ _ p] _ _ _=>p | _=>default
theorem Wh:wT = .Try tA [.ExceptHandler (some (.Name "StopIteration" vD)) none (at_ tH 0::[at_ tH 1]) vC] [] [] (sP wT):=by kernel_rfl
theorem WK:tA=[DO,at_ tA 1]:=by kernel_rfl
theorem WJ:DO = .Assign [.Name "node" (eP (sT DO))] (.Call (e1 (sE DO)) [] [] (eP (sE DO))) (sP DO):=by kernel_rfl
theorem WS:Vr 9 (.ev (e1 (sE DO))) (fS 0 (EF x) (hq B l (il++[v]) sn ds cl AI)) v (fS 0 (EF x) (hq B l (il++[v]) sn ds cl AI)):=by
 have e:e1 (sE DO) = .Subscript (e1 (e1 (sE DO))) (e2 (e1 (sE DO))) (eP (e1 (sE DO))):=by kernel_rfl
 refine .of ?_
 rw [e,J3 (n:=8) (ov:=.ref 16) (iv:=.int (-1)) (by kernel_rfl) (by kernel_rfl) (by kernel_rfl)]
 exact item_last (w:=fS 0 (EF x) (hq B l (il++[v]) sn ds cl AI)) K2
theorem wD (hi:i<5) (hk:AI[k]? = some (.iter (5+2*i) p)) (hp:(B.sc i)[p]? = some j) :
  Fr 14 (.ex wT) (fS 0 (EF x) (hq B l (il++[.bm "__next__" (k+19)]) sn ds cl AI)) .brk (fS 0 (EF (nV j)) (hq B l (il++[.bm "__next__" (k+19)]) sn ds cl (AI.set k (.iter (5+2*i) (p+1))))):=by
 have hL:((B.sc i).map nV)[p]? = some (nV j):=by rw [List.getElem?_map,hp];rfl
 have g:=Vr.bm (v:=nV j) (p:=eP (sE DO)) (by kernel_rfl) (WS (x:=x) (B:=B) (l:=l) (il:=il) (v:=.bm "__next__" (k+19)) (sn:=sn) (ds:=ds) (cl:=cl) (AI:=AI))
  (nO (w:=fS 0 (EF x) (hq B l (il++[.bm "__next__" (k+19)]) sn ds cl AI)) (i:=k+19) (a:=5+2*i) (k:=p) (by show (hq B _ _ _ _ _ _)[k+19]? = _;rw [PB];exact hk) (TV hi) hL (show 15<=k+19 by lia))
 have g1:=F3 (x:="node") (p:=eP (sT DO)) (q:=sP DO) (by rfl) (.inl (by kernel_rfl)) g
 rw [<-WJ] at g1
 rw [Wh,WK]
 refine .wF (n:=13) (by kernel_rfl) ?_ (by simp)
 have g2:Fr 12 (.exs [at_ tA 1]) (fS 0 (EF (nV j)) (hq B l (il++[.bm "__next__" (k+19)]) sn ds cl (AI.set k (.iter (5+2*i) (p+1))))) .brk (fS 0 (EF (nV j)) (hq B l (il++[.bm "__next__" (k+19)]) sn ds cl (AI.set k (.iter (5+2*i) (p+1))))):=.of (by kernel_rfl)
 exact .exs (N:=12) g1 g2 (by lia) (by lia)
def dE:Expr:=match at_ tH 0 with | .Delete [.Subscript _ i _] _=>i | _=>default
def dO:Expr:=match at_ tH 0 with | .Delete [.Subscript o _ _] _=>o | _=>default
def dP:Pos:=match at_ tH 0 with | .Delete [.Subscript _ _ p] _=>p | _=>default
def dQ:Pos:=match at_ tH 0 with | .Delete _ p=>p | _=>default
noncomputable def Cj:Expr->Expr
 | .Call (.Attribute o _ _) _ _ _=>o
 |e=>e
noncomputable def Es:Expr->Pos
 | .Call (.Attribute _ _ p) _ _ _=>p
 |_=>default
theorem oN (hl:l.length<=1000):Vr 10 (.ev dE) (fS 2 (EF x) (hq B (l++[u]) il sn ds cl AI)) u (fS 2 (EF x) (hq B l il sn ds cl AI)):=by
 have e:dE = .Call (.Attribute (Cj dE) "pop" (Es dE)) [] [] (eP dE):=by kernel_rfl
 rw [e]
 have g:Vr 4 (.ev (Cj dE)) (fS 2 (EF x) (hq B (l++[u]) il sn ds cl AI)) (.ref 15) (fS 2 (EF x) (hq B (l++[u]) il sn ds cl AI)):=.of (by kernel_rfl)
 exact Jc (N:=9) (n:=4) (m:=4) (ob:=.list (l++[u])) (p:=("list","list.pop")) (by kernel_rfl) rfl g K1 (by kernel_rfl) (by kernel_rfl) IV
  (Ra (w:=fS 2 (EF x) (hq B (l++[u]) il sn ds cl AI)) (l:=l) (x:=u) K1 hl (show 15<=15 by decide)) (by lia) (by lia)
theorem oM (hl:il.length<=1000):Fr 12 (.ex (at_ tH 1)) (fS 2 (EF x) (hq B l (il++[u]) sn ds cl AI)) .next (fS 2 (EF x) (hq B l il sn ds cl AI)):=by
 have e:at_ tH 1 = .Expr (.Call (.Attribute (eO (at_ tH 1)) "pop" (KZ (at_ tH 1))) [] [] (eP (sE (at_ tH 1)))) (sP (at_ tH 1)):=by kernel_rfl
 rw [e]
 have g:Vr 4 (.ev (eO (at_ tH 1))) (fS 2 (EF x) (hq B l (il++[u]) sn ds cl AI)) (.ref 16) (fS 2 (EF x) (hq B l (il++[u]) sn ds cl AI)):=.of (by kernel_rfl)
 exact .expr (by rfl) (Jc (N:=10) (n:=4) (m:=4) (ob:=.list (il++[u])) (p:=("list","list.pop")) (by kernel_rfl) rfl g K2 (by kernel_rfl) (by kernel_rfl) IV
  (Ra (w:=fS 2 (EF x) (hq B l (il++[u]) sn ds cl AI)) (l:=il) (x:=u) K2 hl (show 15<=16 by decide)) (by lia) (by lia))
theorem ZY {c:V} (hl:l.length<=1000) (hg:(AN (nm i) (ds++[(nm i,c)])).isSome=true) (hd:CX (nm i) (ds++[(nm i,c)])=ds) :
  Fr 13 (.ex (at_ tH 0)) (fS 2 (EF x) (hq B (l++[nV i]) il sn (ds++[(nm i,c)]) cl AI)) .next (fS 2 (EF x) (hq B l il sn ds false AI)):=by
 have e:at_ tH 0 = .Delete [.Subscript dO dE dP] dQ:=by kernel_rfl
 rw [e]
 have g:Vr 4 (.ev dO) (fS 2 (EF x) (hq B (l++[nV i]) il sn (ds++[(nm i,c)]) cl AI)) (.ref 18) (fS 2 (EF x) (hq B (l++[nV i]) il sn (ds++[(nm i,c)]) cl AI)):=.of (by kernel_rfl)
 have h:=ZX (w:=fS 2 (EF x) (hq B l il sn (ds++[(nm i,c)]) cl AI)) (i:=18) (x:=nm i) PA hg (show 15<=18 by decide)
 rw [hd] at h
 exact .del (N:=12) (n:=4) (m:=10) g (oN hl) h (by lia) (by lia)
theorem wH {c:V} (hi:i<5) (hk:AI[k]? = some (.iter (5+2*i) p)) (hp:(B.sc i)[p]? = none) (hl:l.length<=1000) (fc:il.length<=1000)
  (hg:(AN (nm i) (ds++[(nm i,c)])).isSome=true) (hd:CX (nm i) (ds++[(nm i,c)])=ds) :
  Fr 18 (.ex wT) (fS 0 (EF x) (hq B (l++[nV i]) (il++[.bm "__next__" (k+19)]) sn (ds++[(nm i,c)]) cl AI)) .next (fS 0 (EF x) (hq B l il sn ds false (AI.set k .gone))):=by
 have hL:((B.sc i).map nV)[p]? = none:=by rw [List.getElem?_map,hp];rfl
 have g:=Vx.bm (p:=eP (sE DO)) (by kernel_rfl) (WS (x:=x) (B:=B) (l:=l++[nV i]) (il:=il) (v:=.bm "__next__" (k+19)) (sn:=sn) (ds:=ds++[(nm i,c)]) (cl:=cl) (AI:=AI))
  (nN (w:=fS 0 (EF x) (hq B (l++[nV i]) (il++[.bm "__next__" (k+19)]) sn (ds++[(nm i,c)]) cl AI)) (i:=k+19) (a:=5+2*i) (k:=p) (by show (hq B _ _ _ _ _ _)[k+19]? = _;rw [PB];exact hk) (TV hi) hL (show 15<=k+19 by lia) rfl)
 have g1:=Fx.assign (ts:=[.Name "node" (eP (sT DO))]) (q:=sP DO) (by rfl) (by rfl) g
 rw [<-WJ] at g1
 have g2:Fx 12 (.exs tA) (fS 0 (EF x) (hq B (l++[nV i]) (il++[.bm "__next__" (k+19)]) sn (ds++[(nm i,c)]) cl AI)) "StopIteration" (fS 0 (EF x) (hq B (l++[nV i]) (il++[.bm "__next__" (k+19)]) sn (ds++[(nm i,c)]) cl (AI.set k .gone))):=by
  rw [WK]
  exact g1.exs
 have g3:Fr 16 (.exs [at_ tH 0,at_ tH 1]) (fS 2 (EF x) (hq B (l++[nV i]) (il++[.bm "__next__" (k+19)]) sn (ds++[(nm i,c)]) cl (AI.set k .gone))) .next (fS 2 (EF x) (hq B l il sn ds false (AI.set k .gone))):=
  .exs (N:=15) (ZY (by lia) hg hd) (.exs (N:=13) (oM fc) .nil (by lia) (by lia)) (by lia) (by lia)
 rw [Wh]
 exact .WW (N:=17) (by kernel_rfl) g2 (by kernel_rfl) (by kernel_rfl) g3 (by lia) (by lia)
structure En where
 i:Nat
 p:Nat
 k:Nat
inductive F1 (sc:Nat->List Nat):List Nat->Prop
 |nil:F1 sc []
 |cons {i:Nat} {l:List Nat} (h:∀j∈sc i,j∈l) (hn:i∉l) (t:F1 sc l):F1 sc (i::l)
inductive Chain (sc:Nat->List Nat) (fin:List Nat):Nat->List En->Prop
 |nil {j:Nat}:Chain sc fin j []
 |cons {j:Nat} {e:En} {r:List En} (h1:1<=e.p) (h2:(sc e.i)[e.p-1]? = some j) (h3:∀q,q<e.p-1->∀x,(sc e.i)[q]? = some x->x∈fin) (t:Chain sc fin e.i r):Chain sc fin j (e::r)
def Lh (sc:Nat->List Nat) (fin:List Nat):List En->Prop
 | []=>True
 |e::r=>(∀q,q<e.p->∀x,(sc e.i)[q]? = some x->x∈fin)/\Chain sc fin e.i r
theorem Chain.mono {fin:List Nat} (h:∀x∈fin,x∈CD) (c:Chain sc fin j ts):Chain sc CD j ts:=by
 induction c with
 |nil=>exact .nil
 |cons h1 h2 h3 t ih=>exact .cons h1 h2 (fun q hq x hx=>h x (h3 q hq x hx)) ih
theorem Chain.U7 {fin:List Nat} (c:Chain sc fin j ts) (hj:j∈fin):Lh sc fin ts:=by
 cases c with
 |nil=>exact trivial
 | @cons _ e r h1 h2 h3 t=>
  refine ⟨fun q hq x hx=>?_,t⟩
  by_cases h:q<e.p-1
  .exact h3 q h x hx
  .have e:q=e.p-1:=by lia
   rw [e,h2] at hx
   obtain rfl:=aa hx
   exact hj
structure DI (B:BC) (fin AP:List Nat) (ts:List En) (AI:List O):Prop where
 lt:∀x∈AP,x<5
 on:∀e∈ts,e.i∈AP
 all:∀x∈AP,x∈ts.map En.i\/x∈fin
 dis:∀e∈ts,e.i∉fin
 fs:∀x∈fin,x∈AP
 nd:(ts.map En.i).Nodup
 kd:(ts.map En.k).Nodup
 it:∀e∈ts,AI[e.k]? = some (.iter (5+2*e.i) e.p)
 tp:F1 B.sc fin
 sn:AP.Nodup
noncomputable def CB:List En->List (Str × V)
 | []=>[]
 |e::r=>CB r++[(nm e.i,.int r.length)]
noncomputable def hT (B:BC) (ts:List En) (AP:List Nat) (cl:Bool) (AI:List O):List O:=hq B (ts.reverse.map fun e=>nV e.i) (ts.reverse.map fun e=>.bm "__next__" (e.k+19)) (AP.map nm) (CB ts) cl AI
theorem Ue {c:Nat} (ha:a<5) (hc:c<5) (h:nm a=nm c):a=c:=by
 have key:∀a,a<5->∀c,c<5->nm a=nm c->a=c:=by decide
 exact key a ha c hc h
theorem ni:∀(n:Nat) (l:List Nat),l.Nodup->(∀x∈l,x<n)->l.length<=n:=by
 intro n_
 induction n_ with
 |zero=>
  intro l _ h
  induction l using lc with
  |nil=>simp
  |cons x r=>exact absurd (h x (.head _)) (by lia)
 |succ n AU=>
  intro l hd h
  by_cases hn:n∈l
  .have h1:=AU (l.erase n) (hd.erase n) (fun x hx=>by
    have h2:=h x (List.mem_of_mem_erase hx)
    have h3:x≠n:=fun q=>by rw [q] at hx;exact hd.not_mem_erase hx
    lia)
   rw [List.length_erase_of_mem hn] at h1
   lia
  .have h1:=AU l hd (fun x hx=>by
    have h2:=h x hx
    have h3:x≠n:=fun q=>by rw [q] at hx;exact hn hx
    lia)
   lia
theorem Jh {l:List Nat} (h:l.Nodup) (hl:∀x∈l,x<5):l.length<=5:=ni 5 l h hl
theorem Mt {AP:List Nat} (hl:∀x∈AP,x<5) (hj:j<5):(AP.map nm).contains (nm j)=AP.contains j:=by
 rw [Bool.eq_iff_iff,List.contains_iff_mem,List.contains_iff_mem]
 refine ⟨fun h=>?_,fun h=>List.mem_map_of_mem h⟩
 obtain ⟨y,hy,e⟩:=List.mem_map.mp h
 rw [<-Ue (hl y hy) hj e]
 exact hy
theorem OE (hj:j<5) (hl:∀e∈ts,e.i<5) (h:j∉ts.map En.i):AN (nm j) (CB ts)=none:=by
 refine Ob fun m=>h ?_
 have key:∀ts:List En,(∀e∈ts,e.i<5)->nm j∈(CB ts).map (·.1)->j∈ts.map En.i:=by
  intro ts
  induction ts with
  |nil=>intro _ m;cases m
  |cons e r ih=>
   intro hl m
   have m:nm j∈(CB r++[(nm e.i,V.int r.length)]).map (·.1):=m
   simp only [List.map_append,bq,List.map_nil,List.mem_append,List.mem_singleton] at m
   rcases m with m | m
   .exact List.mem_cons_of_mem _ (ih (fun e he=>hl e (.tail _ he)) m)
   .rw [Ue hj (hl e (.head _)) m];exact .head _
 exact key ts hl m
theorem OZ (x:Str):∀(a c:List (Str × V)),AN x a=none->AN x (a++c)=AN x c:=by
 intro a_
 induction a_ with
 |nil=>
  intro c _
  exact rfl
 |cons BN r AU=>
  obtain ⟨y,u⟩:=BN
  intro c h
  simp only [List.cons_append,AN] at h ⊢
  split at h
  .cases h
  .rw [aj (by assumption)];exact AU c h
theorem Oa (x:Str) (u:V):∀(a c:List (Str × V)),AN x a=some u->AN x (a++c)=some u:=by
 intro a_
 induction a_ with
 |nil=>
  intro c h
  exact nn h
 |cons BN r AU=>
  obtain ⟨y,z⟩:=BN
  intro c h
  simp only [List.cons_append,AN] at h ⊢
  split at h
  .rw [ak (by assumption)];exact h
  .rw [aj (by assumption)];exact AU c h
theorem ZU (x:Str) (u:V):∀a:List (Str × V),AN x a=none->CX x (a++[(x,u)])=a:=by
 intro a_
 induction a_ with
 |nil=>
  intro _
  exact KW.trans (ak (beq_self_eq_true x))
 |cons BN r AU=>
  obtain ⟨y,z⟩:=BN
  intro h
  rw [Ca] at h
  rw [List.cons_append,KW]
  split at h
  .cases h
  .rw [aj (by assumption),AU h]
theorem qj (x:Str) (u:V):∀a:List (Str × V),AN x a=none->Ao x u a=a++[(x,u)]:=by
 intro a_
 induction a_ with
 |nil=>
  intro _
  exact rfl
 |cons BN r AU=>
  obtain ⟨y,z⟩:=BN
  intro h
  simp only [List.cons_append,AN,Ao] at h ⊢
  split at h
  .cases h
  .rw [aj (by assumption),AU h]
theorem Zr (h:j∈ts.map En.i):∃q:Nat,AN (nm j) (CB ts)=some (.int q):=by
 induction ts with
 |nil=>cases h
 |cons e r ih=>
  show ∃q:Nat,AN (nm j) (CB r++[(nm e.i,.int r.length)])=_
  induction hr:AN (nm j) (CB r) using oc with
  |some u=>
   by_cases hj:j∈r.map En.i
   .obtain ⟨q,hq⟩:=ih hj
    exact ⟨q,Oa _ _ _ _ hq⟩
   .rcases List.mem_cons.mp h with rfl | h
    .have key:∀ts:List En,∀x u,AN x (CB ts)=some u->∃q:Nat,u = .int q:=by
      intro ts
      induction ts with
      |nil=>intro x u h;exact nn h
      |cons e r ih=>
       intro x u h
       have h:AN x (CB r++[(nm e.i,V.int r.length)])=some u:=h
       induction hh:AN x (CB r) using oc with
       |some z=>
        rw [Oa _ _ _ _ hh] at h
        obtain rfl:=aa h
        exact ih x _ hh
       |none=>
        rw [OZ _ _ _ hh] at h
        rw [Ca] at h
        split at h
        .obtain rfl:=aa h;exact ⟨_,rfl⟩
        .exact nn h
     obtain ⟨q,rfl⟩:=key r _ _ hr
     exact ⟨q,Oa _ _ _ _ hr⟩
    .exact (hj h).elim
  |none=>
   rcases List.mem_cons.mp h with rfl | h
   .exact ⟨r.length,by rw [OZ _ _ _ hr];simp [AN]⟩
   .obtain ⟨q,hq⟩:=ih h
    rw [hr] at hq;exact nn hq
theorem MD (e:En) (r:List En) (AP:List Nat) (cl:Bool) (AI:List O):hT B (e::r) AP cl AI=hq B (r.reverse.map (fun e=>nV e.i)++[nV e.i]) (r.reverse.map (fun e=>.bm "__next__" (e.k+19))++[.bm "__next__" (e.k+19)]) (AP.map nm) (CB r++[(nm e.i,.int r.length)]) cl AI:=by
 unfold hT
 rw [CB,List.reverse_cons,List.map_append,List.map_append]
 rfl
noncomputable def Ec (sc:Nat->List Nat) (ts:List En):Nat:=(ts.map fun e=>(sc e.i).length-e.p).sum
noncomputable def Cn (sc:Nat->List Nat) (AP:List Nat):Nat:=(((List.range 5).filter fun i=>!AP.contains i).map fun i=>(sc i).length).sum
theorem DI.len {fin AP:List Nat} (D:DI B fin AP ts AI):ts.length<=5:=by
 have:=Jh D.nd (fun x hx=>by
  obtain ⟨e,he,rfl⟩:=List.mem_map.mp hx
  exact D.lt _ (D.on e he))
 simpa using this
theorem Wj:sA wW=[wT]/\sB wW=[at_ (sB wW) 0]:=⟨by kernel_rfl,by kernel_rfl⟩
inductive XE (B:BC) (ts:List En) (AP:List Nat) (AI:List O) (cl:Bool) (x:V):Prop
 |go (Fw:List En) (CD:List Nat) (Bo:List O) (CA:Bool) (j:Nat) (d1:DI B CD AP Fw Bo) (d2:Chain B.sc CD j Fw) (i:Nat) (hi:j∈B.sc i) (d4:Ec B.sc Fw+1=Ec B.sc ts) (d5:Fr (22+ts.length) (.wh (sE wW) (sA wW) (sB wW)) (fS 0 (EF x) (hT B ts AP cl AI)) .next (fS 0 (EF (nV j)) (hT B Fw AP CA Bo)))
 |stop (CD:List Nat) (Bo:List O) (CA:Bool) (d1:DI B CD AP [] Bo) (d2:Ec B.sc ts=0) (d3:Fr (22+ts.length) (.wh (sE wW) (sA wW) (sB wW)) (fS 0 (EF x) (hT B ts AP cl AI)) .brk (fS 0 (EF x) (hT B [] AP CA Bo)))
theorem iT:∀(ts:List En) (fin AP:List Nat) (AI:List O) (cl:Bool) (x:V),DI B fin AP ts AI->Lh B.sc fin ts->XE B ts AP AI cl x:=by
 intro ts
 induction ts with
 |nil=>
  intro fin AP AI cl x D R
  refine .stop fin AI cl D rfl ?_
  have g:Fr 8 (.exs (sB wW)) (fS 0 (EF x) (hT B [] AP cl AI)) .brk (fS 0 (EF x) (hT B [] AP cl AI)):=.of (by kernel_rfl)
  exact .Qz (N:=21) (n:=8) (m:=8) V3 g (by lia) (by lia)
 |cons e r ih=>
  intro fin AP AI cl x D R
  have hi:e.i<5:=D.lt _ (D.on e (.head _))
  have hk:=D.it e (.head _)
  have ht:Br 8 (.ts (sE wW)) (fS 0 (EF x) (hT B (e::r) AP cl AI)) true (fS 0 (EF x) (hT B (e::r) AP cl AI)):=by
   have:=V3 (x:=x) (B:=B) (l:=(e::r).reverse.map fun e=>nV e.i) (il:=(e::r).reverse.map fun e=>.bm "__next__" (e.k+19)) (sn:=AP.map nm) (ds:=CB (e::r)) (cl:=cl) (AI:=AI)
   rw [show (!((e::r).reverse.map fun e=>nV e.i).isEmpty)=true from by simp] at this
   exact this
  induction hp:(B.sc e.i)[e.p]? using oc with
  |some j=>
   have Ey:e.p<(B.sc e.i).length:=(List.getElem?_eq_some_iff.mp hp).1
   refine .go (⟨e.i,e.p+1,e.k⟩::r) fin (AI.set e.k (.iter (5+2*e.i) (e.p+1))) cl j ?_ ?_ e.i (List.mem_of_getElem? hp) ?_ ?_
   .have gK:e.k<AI.length:=(List.getElem?_eq_some_iff.mp hk).1
    refine ⟨D.lt,fun e' Bv=>?_,D.all,fun e' Bv=>?_,D.fs,D.nd,D.kd,fun e' Bv=>?_,D.tp,D.sn⟩
    .rcases List.mem_cons.mp Bv with rfl | Bv
     .exact D.on e (.head _)
     .exact D.on e' (.tail _ Bv)
    .rcases List.mem_cons.mp Bv with rfl | Bv
     .exact D.dis e (.head _)
     .exact D.dis e' (.tail _ Bv)
    .rcases List.mem_cons.mp Bv with rfl | Bv
     .exact List.getElem?_set_self gK
     .have CJ:e.k≠e'.k:=fun q=>by
       have:=(List.nodup_cons.mp D.kd).1
       exact this (q ▸ List.mem_map_of_mem Bv)
      rw [List.getElem?_set_ne CJ]
      exact D.it e' (.tail _ Bv)
   .exact .cons (by show 1<=e.p+1;lia) hp (fun q hq y hy=>R.1 q (by have:q<e.p+1-1:=hq;lia) y hy) R.2
   .unfold Ec
    simp only [bq,List.sum_cons]
    lia
   .have g:=wD (x:=x) (B:=B) (l:=r.reverse.map (fun e=>nV e.i)++[nV e.i]) (il:=r.reverse.map fun e=>.bm "__next__" (e.k+19)) (sn:=AP.map nm) (ds:=CB r++[(nm e.i,.int r.length)]) (cl:=cl) hi hk hp
    rw [<-MD] at g
    have e2:=MD (B:=B) ⟨e.i,e.p+1,e.k⟩ r AP cl (AI.set e.k (.iter (5+2*e.i) (e.p+1)))
    dsimp only at e2
    rw [<-e2] at g
    rw [Wj.1]
    exact .Qy (N:=22+r.length) (n:=8) (m:=15) ht (.FJ g (by simp)) (.inl ⟨rfl,rfl⟩) (by lia) (by lia)
  |none=>
   have TJ:(B.sc e.i).length<=e.p:=List.getElem?_eq_none_iff.mp hp
   have fB:∀y∈B.sc e.i,y∈fin:=fun y hy=>by
    obtain ⟨q,hq,rfl⟩:=List.getElem_of_mem hy
    exact R.1 q (by lia) _ (List.getElem?_eq_getElem hq)
   have hd:e.i∉r.map En.i:=(List.nodup_cons.mp D.nd).1
   have D':DI B (e.i::fin) AP r (AI.set e.k .gone):=by
    refine ⟨D.lt,fun e' Bv=>D.on e' (.tail _ Bv),fun y hy=>?_,fun e' Bv hm=>?_,fun y hy=>?_,(List.nodup_cons.mp D.nd).2,(List.nodup_cons.mp D.kd).2,fun e' Bv=>?_,.cons fB (D.dis e (.head _)) D.tp,D.sn⟩
    .rcases D.all y hy with h | h
     .rcases List.mem_cons.mp h with rfl | h
      .exact .inr (.head _)
      .exact .inl h
     .exact .inr (.tail _ h)
    .rcases List.mem_cons.mp hm with hm | hm
     .exact hd (hm ▸ List.mem_map_of_mem Bv)
     .exact D.dis e' (.tail _ Bv) hm
    .rcases List.mem_cons.mp hy with rfl | hy
     .exact D.on e (.head _)
     .exact D.fs y hy
    .have CJ:e.k≠e'.k:=fun q=>(List.nodup_cons.mp D.kd).1 (q ▸ List.mem_map_of_mem Bv)
     rw [List.getElem?_set_ne CJ]
     exact D.it e' (.tail _ Bv)
   have R':Lh B.sc (e.i::fin) r:=(R.2.mono fun y hy=>List.mem_cons_of_mem _ hy).U7 (.head _)
   have hn:AN (nm e.i) (CB r)=none:=OE hi (fun e' Bv=>D.lt _ (D.on e' (.tail _ Bv))) hd
   have hlen:=D.len
   have g:=wH (x:=x) (B:=B) (l:=r.reverse.map fun e=>nV e.i) (il:=r.reverse.map fun e=>.bm "__next__" (e.k+19)) (sn:=AP.map nm) (ds:=CB r) (cl:=cl) (c:=.int r.length) hi hk hp (by simp at hlen ⊢;lia) (by simp at hlen ⊢;lia)
    (by rw [OZ _ _ _ hn];simp [AN]) (ZU _ _ _ hn)
   rw [<-MD] at g
   have gb:Fr 20 (.exs (sA wW)) (fS 0 (EF x) (hT B (e::r) AP cl AI)) .next (fS 0 (EF x) (hT B r AP false (AI.set e.k .gone))):=by
    rw [Wj.1]
    exact .exs (N:=19) g .nil (by lia) (by lia)
   have K0:Ec B.sc (e::r)=Ec B.sc r:=by
    unfold Ec
    simp only [bq,List.sum_cons]
    lia
   rcases ih (e.i::fin) AP (AI.set e.k .gone) false x D' R' with ⟨Fw,CD,Bo,CA,j,d1,d2,i,d3,d4,d5⟩ | ⟨CD,Bo,CA,d1,d2,d3⟩
   .exact .go Fw CD Bo CA j d1 d2 i d3 (by rw [K0];exact d4) (.LY (N:=22+r.length) ht (.inl rfl) gb d5 (by lia) (by lia) (by lia))
   .exact .stop CD Bo CA d1 (by rw [K0];exact d2) (.LY (N:=22+r.length) ht (.inl rfl) gb d3 (by lia) (by lia) (by lia))
theorem Vr.slice {p q:Pos} {k:Int} (h1:Ih.v (run n) (.ev o) s=some (.ok ov s)) (h2:Ih.v (run n) (.ev lo) s=some (.ok (.int k) s)) (h3:Ej ov (some k) none s=some (.ok v s)):Vr (n+1) (.ev (.Subscript o (.Slice (some lo) none none q) p)) s v s:=by
 refine .of ?_
 have e:Ih.v (run (n+1)) (.ev (.Subscript o (.Slice (some lo) none none q) p))=AD (Ih.v (run n) (.ev o)) fun ov=>AD (D8 (run n) (some lo)) fun l=>AD (D8 (run n) none) fun u=>Ej ov l u:=by
  rw [Av,Lw]
  rfl
 have e2:D8 (run n) (some lo) s=some (.ok (some k) s):=by
  show AD (Ih.v (run n) (.ev lo)) _ s=_
  rw [AJ h2];rfl
 rw [e,AJ h1,AJ e2]
 exact h3
theorem item_dict {x:Str} {l:List (Str × V)} {c:Bool} (h:w.hp[i]? = some (.dict l c)) (hg:AN x l=some u):item (.ref i) (.str x) w=some (.ok u w):=by
 show AD (A4 i) _ w=_
 rw [AJ (DR h)]
 show BR (AN x l) w=_
 rw [hg];rfl
theorem slice_list {a:Int} (h:w.hp[i]? = some (.list l)) (hl:(cut l (clip l.length a) l.length).length<=1000):Ej (.ref i) (some a) none w=some (.ok (.lst (cut l (clip l.length a) l.length)) w):=by
 have gW:listItems (.ref i) w=some (.ok l w):=JX h
 show AD (listItems (.ref i)) _ w=_
 rw [AJ gW]
 show Bb (cut l (clip l.length a) l.length) w=_
 unfold Bb
 rw [ak hl];rfl
def RE:Expr:=sE (at_ (sA wR) 0)
def IG:Expr:=match e1 RE with | .Subscript _ (.Slice (some l) _ _ _) _=>l | e=>e
def RG:Expr:=match e1 RE with | .Subscript o _ _=>o | e=>e
def RH:Pos:=match e1 RE with | .Subscript _ (.Slice _ _ _ q) _=>q | _=>default
theorem Rz (g:α->β) (l:List α) (a c:Nat):cut (l.map g) a c=(cut l a c).map g:=by
 unfold cut
 rw [<-List.map_drop,<-List.map_take]
theorem pK {L:List Nat} {q:Nat} (hL:L.length<=900) (GG:AN (nm j) ds=some (.int q)) :
  Fr 20 (.exs (sA wR)) (fS 0 (EF (nV j)) (hq B (L.map nV) il sn ds cl AI)) (.ret (.lst ((cut L (clip L.length q) L.length++[j]).map nV))) (fS 0 (EF (nV j)) (hq B (L.map nV) il sn ds cl AI)):=by
 have e:sA wR=[.Return (some RE) (sP (at_ (sA wR) 0))]:=by kernel_rfl
 have KY:RE = .BinOp (.Subscript RG (.Slice (some IG) none none RH) (eP (e1 RE))) .Add (e2 RE) (eP RE):=by kernel_rfl
 have e3:IG = .Subscript (e1 IG) (e2 IG) (eP IG):=by kernel_rfl
 have ME:(cut L (clip L.length q) L.length).length<=900:=by
  unfold cut
  simp
  lia
 have h2:Ih.v (run 9) (.ev IG) (fS 0 (EF (nV j)) (hq B (L.map nV) il sn ds cl AI))=some (.ok (.int q) (fS 0 (EF (nV j)) (hq B (L.map nV) il sn ds cl AI))):=by
  rw [e3,J3 (n:=8) (ov:=.ref 18) (iv:=nV j) (by kernel_rfl) (by kernel_rfl) (by kernel_rfl)]
  exact item_dict (w:=fS 0 (EF (nV j)) (hq B (L.map nV) il sn ds cl AI)) PA GG
 have hs:Ej (.ref 15) (some q) none (fS 0 (EF (nV j)) (hq B (L.map nV) il sn ds cl AI))=some (.ok (.lst ((cut L (clip L.length q) L.length).map nV)) (fS 0 (EF (nV j)) (hq B (L.map nV) il sn ds cl AI))):=by
  have h:=slice_list (w:=fS 0 (EF (nV j)) (hq B (L.map nV) il sn ds cl AI)) (i:=15) (l:=L.map nV) (a:=q) K1 (by rw [bu,Rz,bu];lia)
  rw [bu,Rz] at h
  exact h
 have g1:=Vr.slice (n:=9) (o:=RG) (lo:=IG) (p:=eP (e1 RE)) (q:=RH) (by kernel_rfl) h2 hs
 have g2:Vr 6 (.ev (e2 RE)) (fS 0 (EF (nV j)) (hq B (L.map nV) il sn ds cl AI)) (.lst [nV j]) (fS 0 (EF (nV j)) (hq B (L.map nV) il sn ds cl AI)):=.of (by kernel_rfl)
 have g3:Vr 13 (.ev RE) (fS 0 (EF (nV j)) (hq B (L.map nV) il sn ds cl AI)) (.lst ((cut L (clip L.length q) L.length++[j]).map nV)) (fS 0 (EF (nV j)) (hq B (L.map nV) il sn ds cl AI)):=by
  rw [KY]
  refine .DF (N:=12) g1 g2 ?_ (by lia) (by lia)
  show Bb ((cut L (clip L.length q) L.length).map nV++[nV j]) _=_
  have:(cut L (clip L.length q) L.length).map nV++[nV j]=(cut L (clip L.length q) L.length++[j]).map nV:=by simp
  rw [this]
  unfold Bb
  rw [ak (by simp at ME ⊢;lia)]
  rfl
 obtain ⟨r,er,z⟩:=g3
 have g4:Fr 14 (.ex (.Return (some RE) (sP (at_ (sA wR) 0)))) (fS 0 (EF (nV j)) (hq B (L.map nV) il sn ds cl AI)) (.ret (.lst ((cut L (clip L.length q) L.length++[j]).map nV))) (fS 0 (EF (nV j)) (hq B (L.map nV) il sn ds cl AI)):=⟨r,by rw [Av,OS,AJ er];rfl,z⟩
 rw [e]
 exact (g4.FJ (by simp)).up (by lia) (.refl _)
def Ring (sc:Nat->List Nat):Prop:=∃S:List Nat,S≠[]/\(∀x∈S,x<5)/\∀x∈S,∃y∈S,x∈sc y
theorem Yu {fin:List Nat}:∀{ts:List En} {j:Nat},Chain sc fin j ts->j∈ts.map En.i->(∀e∈ts,e.i<5)->Ring sc:=by
 have key:∀(ts:List En) (j c:Nat),Chain sc fin j ts->c∈ts.map En.i->(∀e∈ts,e.i<5)->∃S:List Nat,c∈S/\(∀x∈S,x<5)/\(∃y∈S,j∈sc y)/\∀x∈S,x≠c->∃y∈S,x∈sc y:=by
  intro ts
  induction ts with
  |nil=>intro j c _ h;cases h
  |cons e r ih=>
   intro j c h hc hl
   cases h with
   |cons h1 h2 h3 t=>
    have hj:j∈sc e.i:=List.mem_of_getElem? h2
    by_cases S9:c=e.i
    .subst S9
     exact ⟨[e.i],.head _,fun x hx=>by rw [List.mem_singleton.mp hx];exact hl e (.head _),⟨e.i,.head _,hj⟩,fun x hx CJ=>absurd (List.mem_singleton.mp hx) CJ⟩
    .have Om:c∈r.map En.i:=by
      rcases List.mem_cons.mp hc with h | h
      .exact (S9 h).elim
      .exact h
     obtain ⟨S,s1,s2,⟨y,hy,PG⟩,s4⟩:=ih e.i c t Om (fun e' Bv=>hl e' (.tail _ Bv))
     refine ⟨e.i::S,.tail _ s1,fun x hx=>?_,⟨e.i,.head _,hj⟩,fun x hx CJ=>?_⟩
     .rcases List.mem_cons.mp hx with rfl | hx
      .exact hl e (.head _)
      .exact s2 x hx
     .rcases List.mem_cons.mp hx with rfl | hx
      .exact ⟨y,.tail _ hy,PG⟩
      .obtain ⟨z,hz,iN⟩:=s4 x hx CJ
       exact ⟨z,.tail _ hz,iN⟩
 intro ts j h hj hl
 obtain ⟨S,s1,s2,⟨y,hy,PG⟩,s4⟩:=key ts j j h hj hl
 refine ⟨S,(fun q=>by rw [q] at s1;cases s1),s2,fun x hx=>?_⟩
 by_cases TZ:x=j
 .subst TZ;exact ⟨y,hy,PG⟩
 .exact s4 x hx TZ
theorem mU {AP:List Nat} (hj:j<5) (h:j∉AP):Cn sc (AP++[j])+(sc j).length=Cn sc AP:=by
 have key:∀l:List Nat,l.Nodup->j∈l->((l.filter fun i=>!(AP++[j]).contains i).map fun i=>(sc i).length).sum+(sc j).length=((l.filter fun i=>!AP.contains i).map fun i=>(sc i).length).sum:=by
  intro l
  induction l with
  |nil=>intro _ h;cases h
  |cons a r ih=>
   intro hd hm
   have same:∀l:List Nat,j∉l->(l.filter fun i=>!(AP++[j]).contains i)=l.filter fun i=>!AP.contains i:=fun l hl=>by
    apply List.filter_congr
    intro x hx
    have:x≠j:=fun q=>hl (q ▸ hx)
    simp [this]
   by_cases ha:a=j
   .subst ha
    have hr:a∉r:=(List.nodup_cons.mp hd).1
    rw [List.filter_cons_of_neg (by simp),List.filter_cons_of_pos (by simpa using h),same r hr]
    simp only [bq,List.sum_cons]
    lia
   .have gX:j∈r:=by
     rcases List.mem_cons.mp hm with q | q
     .exact (ha q.symm).elim
     .exact q
    have:=ih (List.nodup_cons.mp hd).2 gX
    by_cases hs:a∈AP
    .rw [List.filter_cons_of_neg (by simp [hs]),List.filter_cons_of_neg (by simp [hs])]
     exact this
    .rw [List.filter_cons_of_pos (by simp [hs,ha]),List.filter_cons_of_pos (by simp [hs])]
     simp only [bq,List.sum_cons]
     lia
 exact key (List.range 5) List.nodup_range (List.mem_range.mpr hj)
def Small (B:BC):Prop:=∀i x,x∈B.sc i->x<5
theorem JP:sA C5=[wI,wW]/\sB C5=[]/\sA wI=[wR]/\sB wR=[]:=⟨by kernel_rfl,by kernel_rfl,by kernel_rfl,by kernel_rfl⟩
theorem Qx:wI = .If (sE wI) (sA wI) (sB wI) (sP wI):=by kernel_rfl
theorem Wg:wR = .If (sE wR) (sA wR) (sB wR) (sP wR):=by kernel_rfl
theorem Wi:wW = .While (sE wW) (sA wW) (sB wW) (sP wW):=by kernel_rfl
theorem Se:C5 = .While (sE C5) (sA C5) [] (sP C5):=by kernel_rfl
theorem NI {hp:List O}:Br 4 (.ts (sE C5)) (fS 0 E hp) true (fS 0 E hp):=.of (by kernel_rfl)
theorem DI.push {fin AP:List Nat} (D:DI B fin AP ts AI) (hj:j<5) (hn:j∉AP):DI B fin (AP++[j]) (⟨j,0,AI.length⟩::ts) (AI++[.iter (5+2*j) 0]):=by
 have Ox:j∉fin:=fun q=>hn (D.fs j q)
 have fy:j∉ts.map En.i:=fun q=>by
  obtain ⟨e,he,rfl⟩:=List.mem_map.mp q
  exact hn (D.on e he)
 refine ⟨fun x hx=>?_,fun e he=>?_,fun x hx=>?_,fun e he=>?_,fun x hx=>List.mem_append_left _ (D.fs x hx),List.nodup_cons.mpr ⟨fy,D.nd⟩,List.nodup_cons.mpr ⟨fun q=>?_,D.kd⟩,fun e he=>?_,D.tp,?_⟩
 .rcases List.mem_append.mp hx with h | h
  .exact D.lt x h
  .rw [List.mem_singleton.mp h];exact hj
 .rcases List.mem_cons.mp he with rfl | he
  .exact List.mem_append_right _ (.head _)
  .exact List.mem_append_left _ (D.on e he)
 .rcases List.mem_append.mp hx with h | h
  .rcases D.all x h with h | h
   .exact .inl (.tail _ h)
   .exact .inr h
  .rw [List.mem_singleton.mp h];exact .inl (.head _)
 .rcases List.mem_cons.mp he with rfl | he
  .exact Ox
  .exact D.dis e he
 .obtain ⟨e,he,hk⟩:=List.mem_map.mp q
  have:=(List.getElem?_eq_some_iff.mp (D.it e he)).1
  have hk:e.k=AI.length:=hk
  lia
 .rcases List.mem_cons.mp he with rfl | he
  .show (AI++[O.iter (5+2*j) 0])[AI.length]? = _
   simp
  .have h:=D.it e he
   rw [bw (List.getElem?_eq_some_iff.mp h).1]
   exact h
 .exact List.nodup_append.mpr ⟨D.sn,List.nodup_cons.mpr ⟨fun h=>(by cases h),List.nodup_nil⟩,fun a ha c hc q=>by rw [List.mem_singleton.mp hc] at q;exact hn (q ▸ ha)⟩
theorem Zq:∀ts:List En,(CB ts).length=ts.length:=by
 intro Qp
 induction Qp with
 |nil=>
  exact rfl
 |cons e r AU=>
  simp only [CB,List.length_append,AU,List.length_cons,List.length_nil]
theorem ou {fin AP:List Nat} (D:DI B fin AP ts AI) (hj:j<5) (hn:j∉AP) :
  Fr 26 (.exs (sB wI)) (fS 0 (EF (nV j)) (hT B ts AP cl AI)) .next (fS 0 (EF (nV j)) (hT B (⟨j,0,AI.length⟩::ts) (AP++[j]) cl (AI++[.iter (5+2*j) 0]))):=by
 have h5:=Jh D.sn D.lt
 have ht:=D.len
 have hds:=Zq ts
 have O5:AN (nm j) (CB ts)=none:=OE hj (fun e he=>D.lt _ (D.on e he)) (fun q=>by
  obtain ⟨e,he,rfl⟩:=List.mem_map.mp q
  exact hn (D.on e he))
 have g:=ow (B:=B) (l:=ts.reverse.map fun e=>nV e.i) (il:=ts.reverse.map fun e=>.bm "__next__" (e.k+19)) (sn:=AP.map nm) (ds:=CB ts) (cl:=cl) (AI:=AI) hj (by simp;lia) (by simp;lia) (by simp;lia) (by lia)
  (by rw [Mt D.lt hj];simpa using hn) (qj _ _ _ O5)
 rw [MD]
 have e1:(ts.reverse.map fun e=>nV e.i).length=ts.length:=by simp
 rw [e1] at g
 rw [List.map_append]
 exact g
inductive RL (B:BC) (M:Nat) (ts:List En) (AP:List Nat) (AI:List O) (cl:Bool) (j:Nat):Prop
 |ret (L:List Nat) (w:S) (l1:L≠[]) (l2:Ring B.sc) (l3:Fr (40+M) (.wh (sE C5) (sA C5) []) (fS 0 (EF (nV j)) (hT B ts AP cl AI)) (.ret (.lst (L.map nV))) w)
 |on (CD CN:List Nat) (Bo:List O) (CA:Bool) (q1:DI B CD CN [] Bo) (q2:∀x∈AP,x∈CN) (q3:j∈CN) (q4:Cn B.sc CN<=Cn B.sc AP) (q5:Fr (40+M) (.wh (sE C5) (sA C5) []) (fS 0 (EF (nV j)) (hT B ts AP cl AI)) .next (fS 0 CM (hT B [] CN CA Bo)))
def Nb (B:BC) (M:Nat):Prop:=∀(ts:List En) (fin AP:List Nat) (AI:List O) (cl:Bool) (j:Nat),DI B fin AP ts AI->Chain B.sc fin j ts->j<5->Ec B.sc ts+Cn B.sc AP<=M->RL B M ts AP AI cl j
theorem Ut (hs:Small B) (M:Nat) (ih:∀k,k+1=M->Nb B k):Nb B M:=by
 intro ts fin AP AI cl j D C hj hM
 have behind:∀(J7:List En) (E5:List Nat) (MQ:List O),DI B fin E5 J7 MQ->Lh B.sc fin J7->(∀x∈AP,x∈E5)->j∈E5->Cn B.sc E5<=Cn B.sc AP->Ec B.sc J7+Cn B.sc E5<=M->
   Fr 30 (.ex wI) (fS 0 (EF (nV j)) (hT B ts AP cl AI)) .next (fS 0 (EF (nV j)) (hT B J7 E5 cl MQ))->RL B M ts AP AI cl j:=by
  intro J7 E5 MQ Q3 R1 sub TP hU hM1 gI
  have hl:=Q3.len
  rcases iT J7 fin E5 MQ cl (nV j) Q3 R1 with ⟨Fw,CD,Bo,CA,j',d1,d2,i,hi,d4,d5⟩ | ⟨CD,Bo,CA,d1,d2,d3⟩
  .have gb:Fr 36 (.exs (sA C5)) (fS 0 (EF (nV j)) (hT B ts AP cl AI)) .next (fS 0 (EF (nV j')) (hT B Fw E5 CA Bo)):=by
    rw [JP.1]
    have gw:=Fr.KC (p:=sP wW) d5
    rw [<-Wi] at gw
    exact .exs (N:=35) gI (.exs (N:=34) gw .nil (by lia) (by lia)) (by lia) (by lia)
   obtain ⟨M,rfl⟩:=Nat.exists_eq_add_one_of_ne_zero (n:=M) (by lia)
   rcases ih M rfl Fw CD E5 Bo CA j' d1 d2 (hs i j' hi) (by lia) with ⟨L,w,l1,l2,l3⟩ | ⟨OV,QO,PW,Nv,q1,q2,q3,q4,q5⟩
   .exact .ret L w l1 l2 (.LY (N:=40+M) NI (.inl rfl) gb l3 (by lia) (by lia) (by lia))
   .exact .on OV QO PW Nv q1 (fun x hx=>q2 x (sub x hx)) (q2 j TP) (bg q4 hU) (.LY (N:=40+M) NI (.inl rfl) gb q5 (by lia) (by lia) (by lia))
  .have gb:Fr 36 (.exs (sA C5)) (fS 0 (EF (nV j)) (hT B ts AP cl AI)) .brk (fS 0 (EF (nV j)) (hT B [] E5 CA Bo)):=by
    rw [JP.1]
    have gw:=Fr.KC (p:=sP wW) d3
    rw [<-Wi] at gw
    exact .exs (N:=35) gI ((gw.FJ (by simp)).up (by lia:_<=35) (.refl _)) (by lia) (by lia)
   refine .on CD E5 Bo CA d1 sub TP hU (Fr.we (.up (.Qy (N:=39) NI gb (.inl ⟨rfl,rfl⟩) (by lia) (by lia)) (by lia) (.refl _)) (CG ⟨rfl,rfl,rfl,rfl,rfl,trivial⟩))
 by_cases FU:j∈AP
 .have ht:Br 8 (.ts (sE wI)) (fS 0 (EF (nV j)) (hT B ts AP cl AI)) true (fS 0 (EF (nV j)) (hT B ts AP cl AI)):=by
   have:=VT (j:=j) (B:=B) (l:=ts.reverse.map fun e=>nV e.i) (il:=ts.reverse.map fun e=>.bm "__next__" (e.k+19)) (sn:=AP.map nm) (ds:=CB ts) (cl:=cl) (AI:=AI)
   rw [Mt D.lt hj,List.contains_iff_mem.mpr FU] at this
   exact this
  by_cases MK:j∈ts.map En.i
  .obtain ⟨q,GG⟩:=Zr MK
   have hlen:=D.len
   have g:=pK (B:=B) (L:=ts.reverse.map En.i) (il:=ts.reverse.map fun e=>.bm "__next__" (e.k+19)) (sn:=AP.map nm) (ds:=CB ts) (cl:=cl) (AI:=AI) (j:=j) (q:=q) (by simp;lia) GG
   rw [List.map_map] at g
   have PE:Br 8 (.ts (sE wR)) (fS 0 (EF (nV j)) (hT B ts AP cl AI)) true (fS 0 (EF (nV j)) (hT B ts AP cl AI)):=by
    have:=UZ (j:=j) (B:=B) (l:=ts.reverse.map fun e=>nV e.i) (il:=ts.reverse.map fun e=>.bm "__next__" (e.k+19)) (sn:=AP.map nm) (ds:=CB ts) (cl:=cl) (AI:=AI)
    rw [GG] at this
    exact this
   have g1:Fr 21 (.ex wR) (fS 0 (EF (nV j)) (hT B ts AP cl AI)) (.ret (.lst ((cut (ts.reverse.map En.i) (clip (ts.reverse.map En.i).length q) (ts.reverse.map En.i).length++[j]).map nV))) (fS 0 (EF (nV j)) (hT B ts AP cl AI)):=by
    rw [Wg]
    exact .ite (N:=20) (b:=true) PE g (by lia) (by lia)
   have g2:Fr 23 (.ex wI) (fS 0 (EF (nV j)) (hT B ts AP cl AI)) (.ret (.lst ((cut (ts.reverse.map En.i) (clip (ts.reverse.map En.i).length q) (ts.reverse.map En.i).length++[j]).map nV))) (fS 0 (EF (nV j)) (hT B ts AP cl AI)):=by
    rw [Qx,JP.2.2.1]
    exact .ite (N:=22) (b:=true) ht (g1.FJ (by simp)) (by lia) (by lia)
   refine .ret _ _ ?_ (Yu C MK (fun e he=>D.lt _ (D.on e he))) (Fr.up (.Qy (N:=39) NI (m:=24) (by rw [JP.1];exact g2.FJ (by simp)) (.inr ⟨⟨_,rfl⟩,rfl⟩) (by lia) (by lia)) (by lia) (.refl _))
   simp
  .have Ox:j∈fin:=by
    rcases D.all j FU with h | h
    .exact (MK h).elim
    .exact h
   have O5:AN (nm j) (CB ts)=none:=OE hj (fun e he=>D.lt _ (D.on e he)) MK
   have PE:Br 8 (.ts (sE wR)) (fS 0 (EF (nV j)) (hT B ts AP cl AI)) false (fS 0 (EF (nV j)) (hT B ts AP cl AI)):=by
    have:=UZ (j:=j) (B:=B) (l:=ts.reverse.map fun e=>nV e.i) (il:=ts.reverse.map fun e=>.bm "__next__" (e.k+19)) (sn:=AP.map nm) (ds:=CB ts) (cl:=cl) (AI:=AI)
    rw [O5] at this
    exact this
   have g1:Fr 9 (.ex wR) (fS 0 (EF (nV j)) (hT B ts AP cl AI)) .next (fS 0 (EF (nV j)) (hT B ts AP cl AI)):=by
    rw [Wg,JP.2.2.2]
    exact .ite (N:=8) (b:=false) PE .nil (by lia) (by lia)
   refine behind ts AP AI D (C.U7 Ox) (fun _ h=>h) FU (ao _) hM ?_
   rw [Qx,JP.2.2.1]
   exact .up (.ite (N:=10) (b:=true) ht (.exs (N:=9) g1 .nil (by lia) (by lia)) (by lia) (by lia)) (by lia) (.refl _)
 .have ht:Br 8 (.ts (sE wI)) (fS 0 (EF (nV j)) (hT B ts AP cl AI)) false (fS 0 (EF (nV j)) (hT B ts AP cl AI)):=by
   have:=VT (j:=j) (B:=B) (l:=ts.reverse.map fun e=>nV e.i) (il:=ts.reverse.map fun e=>.bm "__next__" (e.k+19)) (sn:=AP.map nm) (ds:=CB ts) (cl:=cl) (AI:=AI)
   rw [Mt D.lt hj,show AP.contains j=false from by simpa using FU] at this
   exact this
  have K0:=mU (sc:=B.sc) hj FU
  refine behind (⟨j,0,AI.length⟩::ts) (AP++[j]) (AI++[.iter (5+2*j) 0]) (D.push hj FU) ⟨fun q hq=>absurd hq (by show ¬ q<0;lia),C⟩ (fun x h=>List.mem_append_left _ h) (List.mem_append_right _ (.head _)) (by lia) ?_ ?_
  .have:Ec B.sc (⟨j,0,AI.length⟩::ts)=(B.sc j).length+Ec B.sc ts:=by
    unfold Ec
    simp only [bq,List.sum_cons]
    lia
   lia
  .rw [Qx]
   exact .up (.ite (N:=26) (b:=false) ht (ou D hj FU) (by lia) (by lia)) (by lia) (.refl _)
theorem Uu (hs:Small B):∀M,Nb B M
 |0=>Ut hs 0 fun k h=>by lia
 |M+1=>Ut hs (M+1) fun k h=>by
  have:k=M:=by lia
  subst this
  exact Uu hs k
def HX:Stmt:=at_ (sA By) 0
theorem Kf:sA By=[HX,C5]/\HX = .If (sE HX) (sA HX) [] (sP HX):=⟨by kernel_rfl,by kernel_rfl⟩
theorem Sd:By = .For (.Name "node" (eP (sT By))) (sE By) (sA By) [] (sP By):=by kernel_rfl
inductive XN (B:BC) (M:Nat) (AP:List Nat) (AI:List O) (cl:Bool) (j:Nat):Prop
 |ret (L:List Nat) (w:S) (l1:L≠[]) (l2:Ring B.sc) (l3:Fr (45+M) (.exs (sA By)) (fS 0 (EF (nV j)) (hT B [] AP cl AI)) (.ret (.lst (L.map nV))) w)
 |on (CD CN:List Nat) (Bo:List O) (CA:Bool) (fl:Fl) (GC:fl = .next\/fl = .cont) (q1:DI B CD CN [] Bo) (q2:∀x∈AP,x∈CN) (q3:j∈CN) (q4:Cn B.sc CN<=Cn B.sc AP) (q5:Fr (45+M) (.exs (sA By)) (fS 0 (EF (nV j)) (hT B [] AP cl AI)) fl (fS 0 CM (hT B [] CN CA Bo)))
theorem nY (hs:Small B) {M:Nat} {fin AP:List Nat} (D:DI B fin AP [] AI) (hj:j<5) (hM:Cn B.sc AP<=M):XN B M AP AI cl j:=by
 have ht:=qg (j:=j) (B:=B) (l:=[]) (il:=[]) (sn:=AP.map nm) (ds:=CB []) (cl:=cl) (AI:=AI)
 rw [Mt D.lt hj] at ht
 have e0:SE (fS 0 CM (hT B [] AP cl AI)) (fS 0 (EF (nV j)) (hT B [] AP cl AI)):=CG ⟨rfl,rfl,rfl,rfl,rfl,trivial⟩
 by_cases FU:j∈AP
 .rw [List.contains_iff_mem.mpr FU] at ht
  have gc:Fr 4 (.exs (sA HX)) (fS 0 (EF (nV j)) (hT B [] AP cl AI)) .cont (fS 0 (EF (nV j)) (hT B [] AP cl AI)):=.of (by kernel_rfl)
  have g1:Fr 9 (.ex HX) (fS 0 (EF (nV j)) (hT B [] AP cl AI)) .cont (fS 0 (EF (nV j)) (hT B [] AP cl AI)):=by
   rw [Kf.2]
   exact .ite (N:=8) (b:=true) ht gc (by lia) (by lia)
  refine .on fin AP AI cl .cont (.inr rfl) D (fun _ h=>h) FU (ao _) ?_
  rw [Kf.1]
  exact (Fr.up (g1.FJ (by simp)) (by lia) (.refl _)).we e0
 .rw [show AP.contains j=false from by simpa using FU] at ht
  have g1:Fr 9 (.ex HX) (fS 0 (EF (nV j)) (hT B [] AP cl AI)) .next (fS 0 (EF (nV j)) (hT B [] AP cl AI)):=by
   rw [Kf.2]
   exact .ite (N:=8) (b:=false) ht .nil (by lia) (by lia)
  have K0:Ec B.sc []+Cn B.sc AP<=M:=by show 0+_<=M;lia
  rcases Uu hs M [] fin AP AI cl j D .nil hj K0 with ⟨L,w,l1,l2,l3⟩ | ⟨CD,CN,Bo,CA,q1,q2,q3,q4,q5⟩
  .have gw:=Fr.KC (p:=sP C5) l3
   rw [<-Se] at gw
   exact .ret L w l1 l2 (by rw [Kf.1];exact Fr.up (.exs (N:=44+M) g1 ((gw.FJ (by simp)).up (by lia:_<=44+M) (.refl _)) (by lia) (by lia)) (by lia) (.refl _))
  .have gw:=Fr.KC (p:=sP C5) q5
   rw [<-Se] at gw
   exact .on CD CN Bo CA .next (.inl rfl) q1 q2 q3 q4 (by rw [Kf.1];exact Fr.up (.exs (N:=44+M) g1 (.exs (N:=43+M) gw .nil (by lia) (by lia)) (by lia) (by lia)) (by lia) (.refl _))
inductive XM (B:BC) (M:Nat) (p:Pos) (n:Nat) (s:S):Prop
 |ret (L:List Nat) (s':S) (l1:L≠[]) (l2:Ring B.sc) (l3:Cm (run (45+M)) (.Name "node" p) (sA By) [] (.ref 3) true 5 n s=some (.ok (.ret (.lst (L.map nV))) s'))
 |on (CD CN:List Nat) (Bo:List O) (CA:Bool) (s':S) (q1:DI B CD CN [] Bo) (q2:∀x,x<5->x∈CN) (q3:Cm (run (45+M)) (.Name "node" p) (sA By) [] (.ref 3) true 5 n s=some (.ok .next s')) (q4:SE (fS 0 CM (hT B [] CN CA Bo)) s')
theorem nh (hs:Small B) {M:Nat} {p:Pos}:∀(r pre fin AP:List Nat) (AI:List O) (cl:Bool) (s:S),List.range 5=pre++r->DI B fin AP [] AI->(∀x∈pre,x∈AP)->Cn B.sc AP<=M->SE (fS 0 CM (hT B [] AP cl AI)) s->XM B M p r.length s:=by
 intro r
 induction r with
 |nil=>
  intro pre fin AP AI cl s h D hp hM z
  have K4:Bg (.ref 3) (fS 0 CM (hT B [] AP cl AI))=some (.ok (true,(List.range 5).map nV) (fS 0 CM (hT B [] AP cl AI))):=by rfl
  have PC:=GP z K4
  refine .on fin AP AI cl s D (fun x hx=>hp x (by rw [List.append_nil] at h;rw [<-h];exact List.mem_range.mpr hx)) ?_ z
  show AD (Bs (.ref 3) true 5 5) _ s=_
  have ht:Bs (.ref 3) true 5 5 s=some (.ok none s):=by
   show AD (Bg (.ref 3)) _ s=_
   rw [AJ PC];rfl
  rw [AJ ht]
  show Ih.f (run (45+M)) (.exs []) s=_
  rw [show 45+M=(44+M)+1 by lia,Av,JN];rfl
 |cons a r ih=>
  intro pre fin AP AI cl s h D hp hM z
  have K4:Bg (.ref 3) (fS 0 CM (hT B [] AP cl AI))=some (.ok (true,(List.range 5).map nV) (fS 0 CM (hT B [] AP cl AI))):=by rfl
  have PC:=GP z K4
  have ha:a<5:=List.mem_range.mp (by rw [h];simp)
  have hl:5=pre.length+(r.length+1):=by
   have:=congrArg List.length h
   simpa using this
  have ht:Bs (.ref 3) true 5 (5-(r.length+1)) s=some (.ok (some (nV a)) s):=by
   show AD (Bg (.ref 3)) _ s=_
   rw [AJ PC]
   have hi:((List.range 5).map nV)[5-(r.length+1)]? = some (nV a):=by
    rw [show 5-(r.length+1)=pre.length by lia,h]
    simp
   show (if true=true/\((List.range 5).map nV).length=5 then AF ((List.range 5).map nV)[5-(r.length+1)]? else AG) s=_
   rw [ak ⟨rfl,rfl⟩,hi];rfl
  obtain ⟨t,et,zt⟩:=V7 (y:="node") z (v:=nV a) (.inl (by kernel_rfl))
  have zt:SE (fS 0 (EF (nV a)) (hT B [] AP cl AI)) t:=zt
  have e:Cm (run (45+M)) (.Name "node" p) (sA By) [] (.ref 3) true 5 (a::r).length s=AD (Ih.f (run (45+M)) (.exs (sA By))) (fun fl=>match fl with
   | .brk=>AF .next
   | .ret v=>AF (.ret v)
   |_=>Cm (run (45+M)) (.Name "node" p) (sA By) [] (.ref 3) true 5 r.length) t:=by
   show AD (Bs (.ref 3) true 5 (5-(r.length+1))) _ s=_
   rw [AJ ht]
   show AD (store "node" (nV a)) _ s=_
   rw [AJ et] <;> rfl
  rcases nY hs D ha hM (cl:=cl) with ⟨L,w,l1,l2,l3⟩ | ⟨CD,CN,Bo,CA,fl,GC,q1,q2,q3,q4,q5⟩
  .obtain ⟨s2,e2,z2⟩:=l3.up (ao _) zt
   exact .ret L s2 l1 l2 (by rw [e,AJ e2];rfl)
  .obtain ⟨s2,e2,z2⟩:=q5.up (ao _) zt
   have e3:AD (Ih.f (run (45+M)) (.exs (sA By))) (fun fl=>match fl with
    | .brk=>AF .next
    | .ret v=>AF (.ret v)
    |_=>Cm (run (45+M)) (.Name "node" p) (sA By) [] (.ref 3) true 5 r.length) t=Cm (run (45+M)) (.Name "node" p) (sA By) [] (.ref 3) true 5 r.length s2:=by
    rw [AJ e2]
    rcases GC with rfl | rfl <;> rfl
   rcases ih (pre++[a]) CD CN Bo CA s2 (by rw [h];simp) q1 (fun x hx=>by
    rcases List.mem_append.mp hx with hx | hx
    .exact q2 x (hp x hx)
    .rw [List.mem_singleton.mp hx];exact q3) (bg q4 hM) z2 with ⟨L,s',l1,l2,l3⟩ | ⟨OV,QO,PW,Nv,s',q1,q2,q3,q4⟩
   .exact .ret L s' l1 l2 (e.trans (e3.trans l3))
   .exact .on OV QO PW Nv s' q1 q2 (e.trans (e3.trans q3)) q4
theorem bX (L:List Nat) (lo d:Nat) (hp:List O):(L.map nV).mapM (fz lo hp (d+1))=some (L.map nV):=by
 induction L with
 |nil=>rfl
 |cons a r ih=>
  rw [bq,List.mapM_cons,ih]
  rfl
theorem bC (hs:Small B) {M:Nat} (hM:Cn B.sc []<=M) (E:Loc) (c:Sc) :
  ∃x,Vr (60+M) (.call 1008 [.ref 2]) ⟨E,c,1,0,HS (.ref 14) B.po B.fin B.np B.sc++[.list B.rl]⟩ x ⟨E,c,1,0,HS (.ref 14) B.po B.fin B.np B.sc++[.list B.rl]⟩ /\
   ((∃L:List Nat,L≠[]/\x = .lst (L.map nV)/\Ring B.sc)\/(x = .none/\∃l,F1 B.sc l/\∀y,y<5->y∈l)):=by
 have e:A0 1008=[at_ (A0 1008) 0,at_ (A0 1008) 1,at_ (A0 1008) 2,at_ (A0 1008) 3,at_ (A0 1008) 4]++[By,at_ (A0 1008) 6]:=by kernel_rfl
 have g0:Fr 16 (.exs [at_ (A0 1008) 0,at_ (A0 1008) 1,at_ (A0 1008) 2,at_ (A0 1008) 3,at_ (A0 1008) 4]) (fS 0 [("self",.ref 2)] (HS (.ref 14) B.po B.fin B.np B.sc++[.list B.rl])) .next (fS 0 CM (hT B [] [] true [])):=by
  have g:Fr 16 (.exs [at_ (A0 1008) 0,at_ (A0 1008) 1,at_ (A0 1008) 2,at_ (A0 1008) 3,at_ (A0 1008) 4]) (fS 0 [("self",.ref 2)] (HS (.ref 14) B.po B.fin B.np B.sc++[.list B.rl])) .next (fS 0 (("self",.ref 2)::CM) (hT B [] [] true [])):=.of (by kernel_rfl)
  exact g.we (CG ⟨rfl,rfl,rfl,rfl,rfl,trivial⟩)
 have D0:DI B [] [] [] []:=⟨fun _ h=>(by cases h),fun _ h=>(by cases h),fun _ h=>(by cases h),fun _ h=>(by cases h),fun _ h=>(by cases h),List.nodup_nil,List.nodup_nil,fun _ h=>(by cases h),.nil,List.nodup_nil⟩
 have hI:Ih.v (run (45+M)) (.ev (sE By)) (fS 0 CM (hT B [] [] true []))=some (.ok (.ref 3) (fS 0 CM (hT B [] [] true []))):=by
  have e1:sE By = .Name "n2i" (eP (sE By)):=by kernel_rfl
  rw [e1,show 45+M=(44+M)+1 by lia,Av,Lv,ak (by kernel_rfl)]
  kernel_rfl
 have K4:Bg (.ref 3) (fS 0 CM (hT B [] [] true []))=some (.ok (true,(List.range 5).map nV) (fS 0 CM (hT B [] [] true []))):=by rfl
 have hF:Ih.f (run (46+M)) (.ex By) (fS 0 CM (hT B [] [] true []))=Cm (run (45+M)) (.Name "node" (eP (sT By))) (sA By) [] (.ref 3) true 5 5 (fS 0 CM (hT B [] [] true [])):=by
  rw [Sd,show 46+M=(45+M)+1 by lia,Av,Kd,<-Sd,AJ hI,AJ K4]
  rfl
 have hb:Bh (Aj 1008) [.ref 2]=some ([("self",.ref 2)]:Loc):=by kernel_rfl
 rcases nh hs (p:=eP (sT By)) (List.range 5) [] [] [] [] true (fS 0 CM (hT B [] [] true [])) rfl D0 (fun _ h=>by cases h) hM (.refl _) with ⟨L,s',l1,l2,l3⟩ | ⟨CD,CN,Bo,CA,s',q1,q2,q3,q4⟩
 .have gF:Fr (46+M) (.ex By) (fS 0 CM (hT B [] [] true [])) (.ret (.lst (L.map nV))) s':=.of (hF.trans l3)
  refine ⟨.lst (L.map nV),?_,.inl ⟨L,l1,rfl,l2⟩⟩
  have g:Fr (59+M) (.exs (A0 1008)) (fS 0 [("self",.ref 2)] (HS (.ref 14) B.po B.fin B.np B.sc++[.list B.rl])) (.ret (.lst (L.map nV))) s':=by
   rw [e]
   exact g0.app (gF.FJ (by simp)) (by lia) (by simp;lia)
  have:=Me (f:=1008) (s:=⟨E,c,1,0,HS (.ref 14) B.po B.fin B.np B.sc++[.list B.rl]⟩) (by kernel_rfl) hb (by kernel_rfl) g (v:=.lst (L.map nV)) (by
   show ((L.map nV).mapM (fz _ s'.hp 3)).map V.lst=_
   rw [bX L _ 2];rfl)
  exact this.up (by lia) (.refl _)
 .have gF:Fr (46+M) (.ex By) (fS 0 CM (hT B [] [] true [])) .next (fS 0 CM (hT B [] CN CA Bo)):=⟨s',hF.trans q3,q4⟩
  refine ⟨.none,?_,.inr ⟨rfl,CD,q1.tp,fun y hy=>?_⟩⟩
  .have gr:Fr 6 (.exs [at_ (A0 1008) 6]) (fS 0 CM (hT B [] CN CA Bo)) (.ret .none) (fS 0 CM (hT B [] CN CA Bo)):=.of (by kernel_rfl)
   have g:Fr (59+M) (.exs (A0 1008)) (fS 0 [("self",.ref 2)] (HS (.ref 14) B.po B.fin B.np B.sc++[.list B.rl])) (.ret .none) (fS 0 CM (hT B [] CN CA Bo)):=by
    rw [e]
    exact g0.app (Fr.exs (N:=50+M) gF gr (by lia) (by lia)) (by lia) (by simp;lia)
   have:=Me (f:=1008) (s:=⟨E,c,1,0,HS (.ref 14) B.po B.fin B.np B.sc++[.list B.rl]⟩) (by kernel_rfl) hb (by kernel_rfl) g (v:=.none) rfl
   exact this.up (by lia) (.refl _)
  .rcases q1.all y (q2 y hy) with h | h
   .cases h
   .exact h
end
section
open PySem
variable {n m N f i:Nat} {s t w w1 w2 w3:S} {v:V} {b:Bool} {as:List V} {B:BC} {l:Loc} {c ex:String} {x y:List Stmt} {p ap cp:Pos} {o e:Expr} {args:List Expr}
theorem xF (h1:(CZ f fns).isSome=true) (hb:Bh (Aj f) as=some l) (hp:Bf f=false) (g:Fx n (.exs (Aj f).body) {s with AA:=l,sc:=(Aj f).sc} c w) (hl:w.lo<=s.lo) (hh:w.hd=s.hd):Vx (n+1) (.call f as) s c {s with hp:=w.hp}:=by
 obtain ⟨r,e,z⟩:=g
 obtain ⟨fn,hf⟩:=Option.isSome_iff_exists.mp h1
 have hd:Aj f=fn:=by unfold Aj;rw [hf];rfl
 rw [hd] at hb e
 refine ⟨{r with AA:=s.AA,sc:=s.sc},?_,rfl,z.hd.trans hh,bg z.lo hl,z.hp,fun _ _ e=>e⟩
 rw [Av,IU,hf]
 dsimp only
 rw [hb]
 dsimp only
 unfold B0 Ff
 rw [hp,aj (by decide),e]
 rfl
theorem Fx.app {xs ys:List Stmt} {c:String} (g:Fr n (.exs xs) s .next w1) (g':Fx m (.exs ys) w1 c w):∀N,n<=N->m+xs.length<=N->Fx N (.exs (xs++ys)) s c w:=by
 induction xs generalizing n s with
 |nil=>
  intro N h1 h2
  obtain ⟨r,e,z⟩:=g
  induction n using zc with
  |zero=>exact nn e
  |succ n=>
   rw [Av,JN] at e
   cases e
   exact g'.up (by simpa using h2) z
 |cons x xs ih=>
  intro N h1 h2
  obtain ⟨r,e,z⟩:=g
  cases n with
  |zero=>exact nn e
  |succ n=>
   obtain ⟨N,rfl⟩:=Nat.exists_eq_add_one_of_ne_zero (n:=N) (by lia)
   rw [Av,JM] at e
   induction q:Ih.f (run n) (.ex x) s using oc with
   |none=>rw [BQ q] at e;exact nn e
   |some o=>
    induction o using uc with
    |ex c s1=>rw [Bu q] at e;cases e
    |ok fl s1=>
     rw [AJ q] at e
     induction fl using Fl.casesOn with
     |next=>
      obtain ⟨s2,q2,z2⟩:=KA (Nat.le_of_succ_le_succ h1) (SE.refl s) q
      have g2:Fr n (.exs xs) s1 .next w1:=⟨r,e,z⟩
      obtain ⟨r3,e3,z3⟩:=ih (g2.up (ao _) z2) N (by lia) (by simp at h2;lia)
      exact ⟨r3,by rw [List.cons_append,OT q2];exact e3,z3⟩
     |brk=>cases e
     |cont=>cases e
     |ret v=>cases e
theorem Fx.ite {c:Expr} (g:Br n (.ts c) s b w1) (g':Fx m (.exs (if b then x else y)) w1 ex w) (h1:n<=N) (h2:m<=N):Fx (N+1) (.ex (.If c x y p)) s ex w:=by
 obtain ⟨r1,e1,z1⟩:=g.up h1 (.refl s)
 obtain ⟨r2,e2,z2⟩:=g'.up h2 z1
 refine ⟨r2,?_,z2⟩
 rw [Av,OQ,AJ e1]
 induction b using bc <;> exact e2
theorem Vx.meth {nm:Str} (hp:(DK o&&ap.endLine==cp.line)=true) (ho:Ih.v (run n) (.ev o) s=some (.ok (.ref i) s)) (hi:s.hp[i]? = some (.inst l)) (hl:AN nm l=none) (hm:GK nm methods=some f)
  (he:∃r,BG (run n) args s=some (.ok as r)/\SE w1 r) (g:Vx m (.call f (.ref i::as)) w1 c w) (hn:m<=n):Vx (n+1) (.ev (.Call (.Attribute o nm ap) args [] cp)) s c w:=by
 obtain ⟨r1,e1,z1⟩:=he
 obtain ⟨r2,e2,z2⟩:=g.up hn z1
 refine ⟨r2,?_,z2⟩
 rw [Av,EP]
 show (if DK o&&ap.endLine==cp.line then Gi (run n) o nm args else AG) s=_
 rw [ak hp,Lp,AJ ho]
 show AD (A4 i) _ s=_
 rw [AJ (DR hi)]
 show EX (run n) i l nm args s=_
 unfold EX
 rw [hl,hm]
 dsimp only
 rw [AJ e1]
 exact e2
theorem Fx.expr (hc:EZ e=false) (g:Vx n (.ev e) s c w):Fx (n+1) (.ex (.Expr e p)) s c w:=by
 obtain ⟨r,e',z⟩:=g
 exact ⟨r,by rw [Av,Lz,hc,aj (by decide),Bu e'],z⟩
def VN:Sc:=(Aj 1005).sc
def pr (i:Nat):Stmt:=at_ (A0 1005) i
def DX:Expr:=sE (pr 1)
def P9:Expr:=(Il DX).headD default
def LI:Sc:=(B4 DX).names
abbrev pS (E:Loc) (hp:List O):S:=⟨E,VN,1,0,hp⟩
noncomputable def A5 (np:Nat->Int):List Nat:=(List.range 5).filter fun i=>np i==0
end
section
open PySem
variable {n m N f i:Nat} {s t w w1 w2 w3:S} {v:V} {b:Bool} {as:List V} {B:BC} {l:Loc} {po fin:Int} {np:Nat->Int} {sc:Nat->List Nat}
noncomputable abbrev HN (po fin:Int) (np:Nat->Int) (sc:Nat->List Nat):List O:=HS .none po fin np sc
theorem oU (hi:i<5):Br 10 (.ts P9) ⟨[("self",.ref 2),("i",.ref (4+2*i))],LI,1,0,HN po fin np sc⟩ (np i==0) ⟨[("self",.ref 2),("i",.ref (4+2*i))],LI,1,0,HN po fin np sc⟩:=by
 refine five i hi ?_ ?_ ?_ ?_ ?_ <;> exact .of (by kernel_rfl)
theorem oR (hi:i<5):Vr 10 (.ev (e1 DX)) ⟨[("self",.ref 2),("i",.ref (4+2*i))],LI,1,0,HN po fin np sc⟩ (nV i) ⟨[("self",.ref 2),("i",.ref (4+2*i))],LI,1,0,HN po fin np sc⟩:=by
 refine five i hi ?_ ?_ ?_ ?_ ?_ <;> exact .of (by kernel_rfl)
theorem oO:Fr 20 (.ex (pr 1)) (pS [("self",.ref 2)] (HN po fin np sc)) .next (pS [("self",.ref 2)] (HS (.ref 14) po fin np sc++[.list ((A5 np).map nV)])):=by
 have e:pr 1 = .Assign [sT (pr 1)] DX (sP (pr 1)):=by kernel_rfl
 have eL:DX = .ListComp (e1 DX) [⟨C7 DX,e2 DX,[P9],0⟩] (B4 DX) (eP DX):=by kernel_rfl
 have hm:Dl DX=true:=by kernel_rfl
 rw [e]
 have hc:∃s',comp (run 12) (e1 DX) (C7 DX) (e2 DX) [P9] 0 (B4 DX) (pS [("self",.ref 2)] (HN po fin np sc))=some (.ok ((A5 np).map nV) s')/\SE (pS [("self",.ref 2)] (HN po fin np sc)) s':=
  FH (N:=12) (Ai:=.vals 3) (kd:=false) (as:=List.range 5) (vV:=fun i=>V.ref (4+2*i)) (ea:=fun i=>⟨[("self",.ref 2),("i",.ref (4+2*i))],LI,1,0,HN po fin np sc⟩) (pr:=fun i=>np i==0) (g:=nV)
   (by kernel_rfl) (by kernel_rfl) (fun E DM=>rfl) (fun k _=>CG (E':=[("self",.ref 2)]) ⟨rfl,trivial⟩)
   (fun k _=>Ep (by kernel_rfl)) (fun k hk=>IJ ((oU (List.mem_range.mp hk)).up (by lia) (.refl _))) (fun k hk _=>(oR (List.mem_range.mp hk)).up (by lia) (.refl _))
 have g:=MT (p:=eP DX) hc (by simp;exact bg (bx _ _) (by decide))
 rw [<-eL] at g
 refine RY (N:=19) (n:=13) (m:=8) (v:=.ref 14) (w:=pS [("self",.ref 2)] (HN po fin np sc++[.list ((A5 np).map nV)])) (by kernel_rfl) ?_ (by kernel_rfl) (by lia) (by lia)
 rw [hm,ak rfl]
 exact g
def Ed:Expr:=sE (pr 2)
theorem oV (hs:∀i x,x∈sc i->x<5) {M:Nat} (hM:Cn sc []<=M) (E:Loc) (c:Sc) :
  ((Vx (72+M) (.call 1005 [.ref 2]) ⟨E,c,1,0,HN po fin np sc⟩ "CycleError" ⟨E,c,1,0,HS (.ref 14) po fin np sc++[.list ((A5 np).map nV)]⟩ /\Ring sc)
   \/(Vr (72+M) (.call 1005 [.ref 2]) ⟨E,c,1,0,HN po fin np sc⟩ .none ⟨E,c,1,0,HS (.ref 14) po fin np sc++[.list ((A5 np).map nV)]⟩ /\∃l,F1 sc l/\∀y,y<5->y∈l)):=by
 have e:A0 1005=[pr 0,pr 1,pr 2]++[pr 3]:=by kernel_rfl
 have KY:pr 2 = .Assign [.Name "cycle" (eP (sT (pr 2)))] Ed (sP (pr 2)):=by kernel_rfl
 have ec:Ed = .Call (.Attribute (Cj Ed) "_find_cycle" (Es Ed)) [] [] (eP Ed):=by kernel_rfl
 have e3:pr 3 = .If (sE (pr 3)) (sA (pr 3)) [] (sP (pr 3)):=by kernel_rfl
 obtain ⟨x,gx,hx⟩:=bC (B:=⟨po,fin,np,sc,(A5 np).map nV⟩) hs hM [("self",.ref 2)] VN
 have go:Ih.v (run 6) (.ev (Cj Ed)) (pS [("self",.ref 2)] (HS (.ref 14) po fin np sc++[.list ((A5 np).map nV)]))=some (.ok (.ref 2) (pS [("self",.ref 2)] (HS (.ref 14) po fin np sc++[.list ((A5 np).map nV)]))):=by kernel_rfl
 have gc:Vr (61+M) (.ev Ed) (pS [("self",.ref 2)] (HS (.ref 14) po fin np sc++[.list ((A5 np).map nV)])) x (pS [("self",.ref 2)] (HS (.ref 14) po fin np sc++[.list ((A5 np).map nV)])):=by
  rw [ec]
  have go':Ih.v (run (60+M)) (.ev (Cj Ed)) (pS [("self",.ref 2)] (HS (.ref 14) po fin np sc++[.list ((A5 np).map nV)]))=some (.ok (.ref 2) (pS [("self",.ref 2)] (HS (.ref 14) po fin np sc++[.list ((A5 np).map nV)]))):=by
   rw [show Cj Ed = .Name "self" (eP (Cj Ed)) from by kernel_rfl,show 60+M=(59+M)+1 by lia,Av,Lv,ak (by kernel_rfl)]
   kernel_rfl
  have:=Jd (n:=60+M) (m:=60+M) (o:=Cj Ed) (nm:="_find_cycle") (ap:=Es Ed) (cp:=eP Ed) (args:=[]) (i:=2) (f:=1008) (as:=[]) (w1:=pS [("self",.ref 2)] (HS (.ref 14) po fin np sc++[.list ((A5 np).map nV)]))
   (l:=[("_node2info",.ref 3),("_ready_nodes",.ref 14),("_npassedout",.int po),("_nfinished",.int fin)]) (by kernel_rfl) go' rfl (by kernel_rfl) (by kernel_rfl) IV gx (ao _)
  exact this.up (by lia) (.refl _)
 have g2:=F3 (x:="cycle") (p:=eP (sT (pr 2))) (q:=sP (pr 2)) (by kernel_rfl) (.inl (by kernel_rfl)) gc
 rw [<-KY] at g2
 have g2:Fr (62+M) (.ex (pr 2)) (pS [("self",.ref 2)] (HS (.ref 14) po fin np sc++[.list ((A5 np).map nV)])) .next (pS [("self",.ref 2),("cycle",x)] (HS (.ref 14) po fin np sc++[.list ((A5 np).map nV)])):=g2.up (by lia) (.refl _)
 have g0:Fr 12 (.ex (pr 0)) (pS [("self",.ref 2)] (HN po fin np sc)) .next (pS [("self",.ref 2)] (HN po fin np sc)):=.of (by kernel_rfl)
 have gA:Fr (66+M) (.exs [pr 0,pr 1,pr 2]) (pS [("self",.ref 2)] (HN po fin np sc)) .next (pS [("self",.ref 2),("cycle",x)] (HS (.ref 14) po fin np sc++[.list ((A5 np).map nV)])):=
  Fr.up (.exs (N:=65+M) g0 (.exs (N:=64+M) oO (.exs (N:=63+M) g2 .nil (by lia) (by lia)) (by lia) (by lia)) (by lia) (by lia)) (by lia) (.refl _)
 have hb:Bh (Aj 1005) [.ref 2]=some ([("self",.ref 2)]:Loc):=by kernel_rfl
 rcases hx with ⟨L,hL,rfl,hr⟩ | ⟨rfl,ht⟩
 .refine .inl ⟨?_,hr⟩
  induction L using lc with
  |nil=>exact absurd rfl hL
  |cons a r=>
   have gt:Br 6 (.ts (sE (pr 3))) (pS [("self",.ref 2),("cycle",.lst ((a::r).map nV))] (HS (.ref 14) po fin np sc++[.list ((A5 np).map nV)])) true (pS [("self",.ref 2),("cycle",.lst ((a::r).map nV))] (HS (.ref 14) po fin np sc++[.list ((A5 np).map nV)])):=.of (by kernel_rfl)
   have gr:Fx 14 (.exs (sA (pr 3))) (pS [("self",.ref 2),("cycle",.lst ((a::r).map nV))] (HS (.ref 14) po fin np sc++[.list ((A5 np).map nV)])) "CycleError" (pS [("self",.ref 2),("cycle",.lst ((a::r).map nV))] (HS (.ref 14) po fin np sc++[.list ((A5 np).map nV)])):=⟨_,by kernel_rfl,.refl _⟩
   have gi:Fx 15 (.ex (pr 3)) (pS [("self",.ref 2),("cycle",.lst ((a::r).map nV))] (HS (.ref 14) po fin np sc++[.list ((A5 np).map nV)])) "CycleError" (pS [("self",.ref 2),("cycle",.lst ((a::r).map nV))] (HS (.ref 14) po fin np sc++[.list ((A5 np).map nV)])):=by
    rw [e3]
    exact .ite (N:=14) (b:=true) gt gr (by lia) (by lia)
   have gw:=Fx.app gA (Fx.exs (l:=[]) gi) (71+M) (by lia) (by simp <;> lia)
   rw [<-e] at gw
   exact (xF (f:=1005) (s:=⟨E,c,1,0,HN po fin np sc⟩) (by kernel_rfl) hb (by kernel_rfl) gw (ao _) rfl).up (by lia) (.refl _)
 .refine .inr ⟨?_,ht⟩
  have gr:Fr 8 (.exs [pr 3]) (pS [("self",.ref 2),("cycle",.none)] (HS (.ref 14) po fin np sc++[.list ((A5 np).map nV)])) .next (pS [("self",.ref 2),("cycle",.none)] (HS (.ref 14) po fin np sc++[.list ((A5 np).map nV)])):=.of (by kernel_rfl)
  have gw:=gA.app (N:=71+M) gr (by lia) (by simp <;> lia)
  rw [<-e] at gw
  exact (Ht (f:=1005) (s:=⟨E,c,1,0,HN po fin np sc⟩) (by kernel_rfl) hb (by kernel_rfl) gw (ao _) rfl).up (by lia) (.refl _)
end
section
open PySem
variable {n m N f:Nat} {s t w w1 w2 w3:S} {v:V} {b:Bool} {as:List V} {l:Loc}
def G3:Stmt:=at_ (A0 223) 0
def Jq:Stmt:=at_ (sA G3) 0
def DZ:Expr:=sE Jq
def U8:List Stmt:=match G3 with | .Try _ [.ExceptHandler _ _ b _] _ _ _=>b | _=>[]
def pG:Pos:=match G3 with | .Try _ [.ExceptHandler (some (.Name _ p)) _ _ _] _ _ _=>p | _=>default
def pC:Pos:=match G3 with | .Try _ [.ExceptHandler _ _ _ p] _ _ _=>p | _=>default
def VO:Sc:=(Aj 223).sc
abbrev rS (d:Nat) (hp:List O):S:=⟨[("sorter",.ref 2)],VO,1,d,hp⟩
end
section
open PySem
variable {n m N f i:Nat} {s t w w1 w2 w3 w':S} {v x c:V} {b:Bool} {as:List V} {l:Loc} {po fin:Int} {np:Nat->Int} {sc:Nat->List Nat} {g e:Expr} {p:Pos} {R:List Nat}
theorem pJ (hs:∀i x,x∈sc i->x<5) {M:Nat} (hM:Cn sc []<=M) (E:Loc) (c:Sc) :
  ∃b,Vr (82+M) (.call 223 [.ref 2]) ⟨E,c,1,0,HN po fin np sc⟩ (.bool b) ⟨E,c,1,0,HS (.ref 14) po fin np sc++[.list ((A5 np).map nV)]⟩ /\(b=true->Ring sc)/\(b=false->∃l,F1 sc l/\∀y,y<5->y∈l):=by
 have e:A0 223=[G3,at_ (A0 223) 1]:=by kernel_rfl
 have eT:G3 = .Try [Jq] [.ExceptHandler (some (.Name "CycleError" pG)) none (at_ U8 0::[]) pC] [] [] (sP G3):=by kernel_rfl
 have eC:Jq = .Expr DZ (sP Jq):=by kernel_rfl
 have eE:DZ = .Call (.Attribute (Cj DZ) "prepare" (Es DZ)) [] [] (eP DZ):=by kernel_rfl
 have go:Ih.v (run (72+M)) (.ev (Cj DZ)) (rS 0 (HN po fin np sc))=some (.ok (.ref 2) (rS 0 (HN po fin np sc))):=by
  rw [show Cj DZ = .Name "sorter" (eP (Cj DZ)) from by kernel_rfl,show 72+M=(71+M)+1 by lia,Av,Lv,ak (by kernel_rfl)]
  kernel_rfl
 have hb:Bh (Aj 223) [.ref 2]=some ([("sorter",.ref 2)]:Loc):=by kernel_rfl
 rcases oV (po:=po) (fin:=fin) (np:=np) hs hM [("sorter",.ref 2)] VO with ⟨g,hr⟩ | ⟨g,ht⟩
 .refine ⟨true,?_,fun _=>hr,fun h=>(by exact Bool.noConfusion h)⟩
  have gx:Vx (73+M) (.ev DZ) (rS 0 (HN po fin np sc)) "CycleError" (rS 0 (HS (.ref 14) po fin np sc++[.list ((A5 np).map nV)])):=by
   rw [eE]
   have:=Vx.meth (n:=72+M) (m:=72+M) (o:=Cj DZ) (nm:="prepare") (ap:=Es DZ) (cp:=eP DZ) (args:=[]) (i:=2) (f:=1005) (as:=[]) (w1:=rS 0 (HN po fin np sc))
    (l:=[("_node2info",.ref 3),("_ready_nodes",.none),("_npassedout",.int po),("_nfinished",.int fin)]) (by kernel_rfl) go rfl (by kernel_rfl) (by kernel_rfl) IV g (ao _)
   exact this.up (by lia) (.refl _)
  have gb:Fx (76+M) (.exs [Jq]) (rS 0 (HN po fin np sc)) "CycleError" (rS 0 (HS (.ref 14) po fin np sc++[.list ((A5 np).map nV)])):=by
   rw [eC]
   exact (Fx.exs (Fx.expr (by rfl) gx)).up (by lia) (.refl _)
  have gh:Fr 6 (.exs [at_ U8 0]) (rS 2 (HS (.ref 14) po fin np sc++[.list ((A5 np).map nV)])) (.ret (.bool true)) (rS 2 (HS (.ref 14) po fin np sc++[.list ((A5 np).map nV)])):=.of (by kernel_rfl)
  have gt:Fr (77+M) (.ex G3) (rS 0 (HN po fin np sc)) (.ret (.bool true)) (rS 0 (HS (.ref 14) po fin np sc++[.list ((A5 np).map nV)])):=by
   rw [eT]
   exact Fr.up (.WW (N:=76+M) (by kernel_rfl) gb (by kernel_rfl) (by kernel_rfl) gh (by lia) (by lia)) (by lia) (.refl _)
  have gw:Fr (78+M) (.exs (A0 223)) (rS 0 (HN po fin np sc)) (.ret (.bool true)) (rS 0 (HS (.ref 14) po fin np sc++[.list ((A5 np).map nV)])):=by
   rw [e]
   exact Fr.up (gt.FJ (by simp)) (by lia) (.refl _)
  exact (Ht (f:=223) (s:=⟨E,c,1,0,HN po fin np sc⟩) (by kernel_rfl) hb (by kernel_rfl) gw (ao _) rfl).up (by lia) (.refl _)
 .refine ⟨false,?_,(fun h=>by exact Bool.noConfusion h),fun _=>ht⟩
  have gx:Vr (73+M) (.ev DZ) (rS 0 (HN po fin np sc)) .none (rS 0 (HS (.ref 14) po fin np sc++[.list ((A5 np).map nV)])):=by
   rw [eE]
   have:=Jd (n:=72+M) (m:=72+M) (o:=Cj DZ) (nm:="prepare") (ap:=Es DZ) (cp:=eP DZ) (args:=[]) (i:=2) (f:=1005) (as:=[]) (w1:=rS 0 (HN po fin np sc))
    (l:=[("_node2info",.ref 3),("_ready_nodes",.none),("_npassedout",.int po),("_nfinished",.int fin)]) (by kernel_rfl) go rfl (by kernel_rfl) (by kernel_rfl) IV g (ao _)
   exact this.up (by lia) (.refl _)
  have gb:Fr (76+M) (.exs [Jq]) (rS 0 (HN po fin np sc)) .next (rS 0 (HS (.ref 14) po fin np sc++[.list ((A5 np).map nV)])):=by
   rw [eC]
   exact Fr.up (.exs (N:=75+M) (Fr.expr (by rfl) gx) .nil (by lia) (by lia)) (by lia) (.refl _)
  have gt:Fr (77+M) (.ex G3) (rS 0 (HN po fin np sc)) .next (rS 0 (HS (.ref 14) po fin np sc++[.list ((A5 np).map nV)])):=by
   rw [eT]
   exact Fr.up (.wG (by kernel_rfl) gb (by lia)) (by lia) (.refl _)
  have gr:Fr 6 (.exs [at_ (A0 223) 1]) (rS 0 (HS (.ref 14) po fin np sc++[.list ((A5 np).map nV)])) (.ret (.bool false)) (rS 0 (HS (.ref 14) po fin np sc++[.list ((A5 np).map nV)])):=.of (by kernel_rfl)
  have gw:Fr (79+M) (.exs (A0 223)) (rS 0 (HN po fin np sc)) (.ret (.bool false)) (rS 0 (HS (.ref 14) po fin np sc++[.list ((A5 np).map nV)])):=by
   rw [e]
   exact Fr.up (.exs (N:=78+M) gt gr (by lia) (by lia)) (by lia) (.refl _)
  exact (Ht (f:=223) (s:=⟨E,c,1,0,HN po fin np sc⟩) (by kernel_rfl) hb (by kernel_rfl) gw (ao _) rfl).up (by lia) (.refl _)
theorem Vr.wj {id:String} (hf:GI g=false) (hs:Bk e=false) (g1:Vr n (.ev g) s (.ty id) w1) (g2:Vr m (.ev e) w1 x w) (hc:JA id [x] w=some (.ok c w')) (h1:n<=N) (h2:m<=N):Vr (N+1) (.ev (.Call g [e] [] p)) s c w':=by
 obtain ⟨r1,e1,z1⟩:=g1.up h1 (.refl s)
 obtain ⟨r2,e2,z2⟩:=g2.up h2 z1
 have:=V1 (L:=0) (k:=0) (X:=[]) (n:=id) (as:=[x])
 rw [V.GO] at this
 obtain ⟨r3,e3,z3⟩:=DN (V.BW 0) this z2 hc
 refine ⟨r3,?_,z3⟩
 rw [Av,EP]
 show Dy (run N) g [e] p s=_
 have he:BG (run N) [e] r1=some (.ok [x] r2):=by rw [F9 hs,AJ e2];rfl
 rw [HU hf,AJ e1,AJ he]
 exact e3
theorem wZ {l:List V} (h:w.hp[i]? = some (.list l)) (hl:l.length<=1000):JA "tuple" [.ref i] w=some (.ok (.tup l) w):=by
 show (if "tuple" = "range" then Jp (.ref i) else if "tuple" = "tuple" then AD (items (.ref i)) D7 else AG) w=_
 rw [aj (by decide),ak rfl,AJ (JX h)]
 show D7 l w=_
 unfold D7
 rw [ak hl];rfl
def qY:Sc:=(Aj 1006).sc
def gd (i:Nat):Stmt:=at_ (A0 1006) i
def Eu:Stmt:=gd 3
abbrev gS (E:Loc) (hp:List O):S:=⟨E,qY,1,0,hp⟩
noncomputable def HR (po fin:Int) (np:Nat->Int) (sc:Nat->List Nat) (R:List Nat):List O:=HS (.ref 14) po fin np sc++[.list (R.map nV)]
noncomputable abbrev EG (R:List Nat):Loc:=[("self",.ref 2),("result",.tup (R.map nV)),("n2i",.ref 3)]
noncomputable def A7 (np:Nat->Int) (R:List Nat):Nat->Int:=R.foldl (fun c i=>upd c i (-1)) np
theorem cD (hi:i<5):Fr 14 (.exs (sA Eu)) (gS [("self",.ref 2),("result",.tup (R.map nV)),("n2i",.ref 3),("node",nV i)] (HR po fin np sc R)) .next (gS (EG R) (HR po fin (upd np i (-1)) sc R)):=by
 have h:Fr 14 (.exs (sA Eu)) (gS [("self",.ref 2),("result",.tup (R.map nV)),("n2i",.ref 3),("node",nV i)] (HR po fin np sc R)) .next (gS [("self",.ref 2),("result",.tup (R.map nV)),("n2i",.ref 3),("node",nV i)] (HR po fin (upd np i (-1)) sc R)):=by
  refine five i hi ?_ ?_ ?_ ?_ ?_ <;> exact .of (by kernel_rfl)
 exact h.we (CG ⟨rfl,rfl,rfl,trivial⟩)
theorem pH (hR:∀i∈R,i<5) (hl:R.length<=900) (E:Loc) (c:Sc) :
  Vr 40 (.call 1006 [.ref 2]) ⟨E,c,1,0,HR po fin np sc R⟩ (.tup (R.map nV)) ⟨E,c,1,0,HR (po+R.length) fin (A7 np R) sc []⟩:=by
 have e:A0 1006=[gd 0,gd 1,gd 2,Eu,gd 4,gd 5,gd 6]:=by kernel_rfl
 have OG:gd 1 = .Assign [.Name "result" (eP (sT (gd 1)))] (.Call (e1 (sE (gd 1))) [e2 (sE (gd 1))] [] (eP (sE (gd 1)))) (sP (gd 1)):=by kernel_rfl
 have eF:Eu = .For (.Name "node" (eP (sT Eu))) (sE Eu) (sA Eu) [] (sP Eu):=by kernel_rfl
 have g0:Fr 12 (.ex (gd 0)) (gS [("self",.ref 2)] (HR po fin np sc R)) .next (gS [("self",.ref 2)] (HR po fin np sc R)):=.of (by kernel_rfl)
 have gv:Vr 10 (.ev (.Call (e1 (sE (gd 1))) [e2 (sE (gd 1))] [] (eP (sE (gd 1))))) (gS [("self",.ref 2)] (HR po fin np sc R)) (.tup (R.map nV)) (gS [("self",.ref 2)] (HR po fin np sc R)):=by
  refine .wj (N:=9) (n:=4) (m:=8) (id:="tuple") (x:=.ref 14) (w:=gS [("self",.ref 2)] (HR po fin np sc R)) (w1:=gS [("self",.ref 2)] (HR po fin np sc R)) (by kernel_rfl) (by kernel_rfl) (.of (by kernel_rfl)) (.of (by kernel_rfl)) ?_ (by lia) (by lia)
  exact wZ (w:=gS [("self",.ref 2)] (HR po fin np sc R)) (i:=14) (l:=R.map nV) rfl (by simp;lia)
 have g1:=F3 (x:="result") (p:=eP (sT (gd 1))) (q:=sP (gd 1)) (by rfl) (.inl (by kernel_rfl)) gv
 rw [<-OG] at g1
 have g2:Fr 10 (.ex (gd 2)) (gS [("self",.ref 2),("result",.tup (R.map nV))] (HR po fin np sc R)) .next (gS (EG R) (HR po fin np sc R)):=.of (by kernel_rfl)
 obtain ⟨gF,_⟩:=Ia (n:=6) (m:=14) (N:=16) (x:="node") (p:=eP (sT Eu)) (q:=sP Eu) (I:=sE Eu) (body:=sA Eu) (fun c:Nat->Int=>gS (EG R) (HR po fin c sc R)) (Ai:=.tup (R.map nV)) (kd:=false) (as:=R) (vV:=nV) (stp:=fun c i=>upd c i (-1))
  (Inv:=fun _ _=>True) (c0:=np) (s0:=gS (EG R) (HR po fin np sc R)) (w0:=gS (EG R) (HR po fin np sc R))
  (.of (by kernel_rfl)) (.refl _) (fun _ _ _=>rfl) (fun c=>.inl (by kernel_rfl)) (fun j r c hj _=>⟨⟨.next,.inl rfl,cD (hR j hj)⟩,trivial⟩) trivial (by lia) (by lia) (by lia)
 rw [<-eF] at gF
 have g4:Fr 30 (.exs [gd 4,gd 5,gd 6]) (gS (EG R) (HR po fin (A7 np R) sc R)) (.ret (.tup (R.map nV))) (gS (EG R) (HR (po+(R.map nV).length) fin (A7 np R) sc [])):=.of (by kernel_rfl)
 rw [bu] at g4
 have gw:Fr 38 (.exs (A0 1006)) (gS [("self",.ref 2)] (HR po fin np sc R)) (.ret (.tup (R.map nV))) (gS (EG R) (HR (po+R.length) fin (A7 np R) sc [])):=by
  rw [e]
  exact .exs (N:=37) g0 (.exs (N:=36) g1 (.exs (N:=35) g2 (.exs (N:=34) gF g4 (by lia) (by lia)) (by lia) (by lia)) (by lia) (by lia)) (by lia) (by lia)
 have hb:Bh (Aj 1006) [.ref 2]=some ([("self",.ref 2)]:Loc):=by kernel_rfl
 exact (Ht (f:=1006) (s:=⟨E,c,1,0,HR po fin np sc R⟩) (by kernel_rfl) hb (by kernel_rfl) gw (ao _) rfl).up (by lia) (.refl _)
end
section
open PySem
variable {n m N f i j k lo:Nat} {s t w w1 w2 w3:S} {v:V} {b:Bool} {as:List V} {l E:Loc} {po fin:Int} {np:Nat->Int} {sc:Nat->List Nat} {α:Type} {R:List Nat} {c:(Nat->Int) × List Nat × Int}
def qW:Sc:=(Aj 1007).sc
def dn (i:Nat):Stmt:=at_ (A0 1007) i
def EO:Stmt:=dn 2
def dk (i:Nat):Stmt:=at_ (sA EO) i
def Dz:Stmt:=dk 4
def dj (i:Nat):Stmt:=at_ (sA Dz) i
def F8:Stmt:=at_ (sA (dj 2)) 0
abbrev dS (E:Loc) (hp:List O):S:=⟨E,qW,1,0,hp⟩
noncomputable abbrev ED:Loc:=[("self",.ref 2),("n2i",.ref 3)]
noncomputable abbrev GZ (i:Nat):Loc:=[("self",.ref 2),("n2i",.ref 3),("nodeinfo",.ref (4+2*i))]
abbrev Q5 (i j:Nat):Loc:=[("self",.ref 2),("n2i",.ref 3),("nodeinfo",.ref (4+2*i)),("successor",nV j)]
abbrev Ds (i j:Nat):Loc:=[("self",.ref 2),("n2i",.ref 3),("nodeinfo",.ref (4+2*i)),("successor",nV j),("successor_info",.ref (4+2*j))]
noncomputable def decr (c:(Nat->Int) × List Nat) (j:Nat):(Nat->Int) × List Nat:=(upd c.1 j (c.1 j-1),if c.1 j-1==0 then c.2++[j] else c.2)
theorem NP (g:Nat->α) (j:Nat) (x:α):upd g j x j=x:=by unfold upd;simp
theorem JB (g:Nat->α) (x:α) (h:k≠j):upd g j x k=g k:=by unfold upd;rw [aj (by simpa using h)]
theorem Za (hj:j<5):Fr 16 (.exs [dj 0,dj 1]) (dS (Q5 i j) (HR po fin np sc R)) .next (dS (Ds i j) (HR po fin (upd np j (np j-1)) sc R)):=by
 refine five j hj ?_ ?_ ?_ ?_ ?_ <;> exact .of (by kernel_rfl)
theorem Zb (hj:j<5):Br 10 (.ts (sE (dj 2))) (dS (Ds i j) (HR po fin (upd np j (np j-1)) sc R)) (np j-1==0) (dS (Ds i j) (HR po fin (upd np j (np j-1)) sc R)):=by
 refine five j hj ?_ ?_ ?_ ?_ ?_ <;> exact .of (by kernel_rfl)
theorem Zd {c:(Nat->Int) × List Nat} (hj:j<5) (hl:c.2.length<900):Fr 24 (.exs (sA Dz)) (dS (Q5 i j) (HR po fin c.1 sc c.2)) .next (dS (GZ i) (HR po fin (decr c j).1 sc (decr c j).2)):=by
 have e:sA Dz=[dj 0,dj 1]++[dj 2]:=by kernel_rfl
 have KY:dj 2 = .If (sE (dj 2)) (sA (dj 2)) [] (sP (dj 2)):=by kernel_rfl
 have eA:sA (dj 2)=[F8]:=by kernel_rfl
 have Zx:F8 = .Expr (.Call (.Attribute (eO F8) "append" (KZ F8)) [e2 (sE F8)] [] (eP (sE F8))) (sP F8):=by kernel_rfl
 have g1:=Za (i:=i) (po:=po) (fin:=fin) (np:=c.1) (sc:=sc) (R:=c.2) hj
 have gt:=Zb (i:=i) (po:=po) (fin:=fin) (np:=c.1) (sc:=sc) (R:=c.2) hj
 have g2:Fr 20 (.ex (dj 2)) (dS (Ds i j) (HR po fin (upd c.1 j (c.1 j-1)) sc c.2)) .next (dS (Ds i j) (HR po fin (decr c j).1 sc (decr c j).2)):=by
  rw [KY]
  unfold decr
  dsimp only
  induction hb:(c.1 j-1==0) using bc with
  |false=>
   rw [hb] at gt
   exact .ite (N:=19) (b:=false) gt .nil (by lia) (by lia)
  |true=>
   rw [hb] at gt
   have go:Vr 8 (.ev (eO F8)) (dS (Ds i j) (HR po fin (upd c.1 j (c.1 j-1)) sc c.2)) (.ref 14) (dS (Ds i j) (HR po fin (upd c.1 j (c.1 j-1)) sc c.2)):=.of (by kernel_rfl)
   have ge:Vr 8 (.ev (e2 (sE F8))) (dS (Ds i j) (HR po fin (upd c.1 j (c.1 j-1)) sc c.2)) (nV j) (dS (Ds i j) (HR po fin (upd c.1 j (c.1 j-1)) sc c.2)):=.of (by kernel_rfl)
   have ha:=Nk (w:=dS (Ds i j) (HR po fin (upd c.1 j (c.1 j-1)) sc c.2)) (i:=14) (l:=c.2.map nV) (x:=nV j) rfl (by simp;lia) (show 1<=14 by decide)
   have e3:c.2.map nV++[nV j]=(c.2++[j]).map nV:=by simp
   rw [e3] at ha
   have gA:Fr 14 (.ex F8) (dS (Ds i j) (HR po fin (upd c.1 j (c.1 j-1)) sc c.2)) .next (dS (Ds i j) (HR po fin (upd c.1 j (c.1 j-1)) sc (c.2++[j]))):=by
    rw [Zx]
    exact .expr (by rfl) (Jc (N:=12) (n:=8) (m:=8) (ob:=.list (c.2.map nV)) (p:=("list","list.append")) (by kernel_rfl) rfl go rfl (by kernel_rfl) (by kernel_rfl) (JK (by kernel_rfl) ge) ha (by lia) (by lia))
   have gs:Fr 15 (.exs (sA (dj 2))) (dS (Ds i j) (HR po fin (upd c.1 j (c.1 j-1)) sc c.2)) .next (dS (Ds i j) (HR po fin (upd c.1 j (c.1 j-1)) sc (c.2++[j]))):=by
    rw [eA]
    exact .exs (N:=14) gA .nil (by lia) (by lia)
   exact .ite (N:=19) (b:=true) gt gs (by lia) (by lia)
 rw [e]
 exact g1.app (N:=24) (Fr.exs (N:=20) g2 (Fr.nil.we (CG ⟨rfl,rfl,rfl,trivial⟩)) (by lia) (by lia)) (by lia) (by simp)
def CY (sc:Nat->List Nat) (c:(Nat->Int) × List Nat × Int) (i:Nat):(Nat->Int) × List Nat × Int:=
 let d:=(sc i).foldl decr (upd c.1 i (-2),c.2.1)
 (d.1,d.2,c.2.2+1)
theorem Ze (hi:i<5):Fr 20 (.exs [dk 0,dk 1,dk 2,dk 3]) (dS [("self",.ref 2),("n2i",.ref 3),("node",nV i)] (HR po fin (upd np i (-1)) sc R)) .next (dS (GZ i) (HR po fin (upd np i (-2)) sc R)):=by
 have h:Fr 20 (.exs [dk 0,dk 1,dk 2,dk 3]) (dS [("self",.ref 2),("n2i",.ref 3),("node",nV i)] (HR po fin (upd np i (-1)) sc R)) .next (dS [("self",.ref 2),("n2i",.ref 3),("node",nV i),("nodeinfo",.ref (4+2*i)),("stat",.int (-1))] (HR po fin (upd np i (-2)) sc R)):=by
  refine five i hi ?_ ?_ ?_ ?_ ?_ <;> exact .of (by kernel_rfl)
 exact h.we (CG ⟨rfl,rfl,rfl,trivial⟩)
theorem Zf (hi:i<5):Ih.v (run 8) (.ev (sE Dz)) (dS (GZ i) (HR po fin np sc R))=some (.ok (.ref (5+2*i)) (dS (GZ i) (HR po fin np sc R))):=by
 refine five i hi ?_ ?_ ?_ ?_ ?_ <;> kernel_rfl
theorem Zg {c:Sc} (hi:i<5):Bg (.ref (5+2*i)) ⟨E,c,lo,0,HR po fin np sc R⟩=some (.ok (false,(sc i).map nV) ⟨E,c,lo,0,HR po fin np sc R⟩):=by
 refine five i hi ?_ ?_ ?_ ?_ ?_ <;> rfl
theorem R4 (c:(Nat->Int) × List Nat) (j:Nat):(decr c j).2.length<=c.2.length+1:=by
 unfold decr
 dsimp only
 split
 .simp
 .lia
theorem bK:∀(l:List Nat) (c:(Nat->Int) × List Nat),(l.foldl decr c).2.length<=c.2.length+l.length:=by
 intro l_
 induction l_ with
 |nil=>
  intro c
  exact ao _
 |cons j l AU=>
  intro c
  have h1:=AU (decr c j)
  have h2:=R4 c j
  simp only [List.foldl_cons,List.length_cons]
  lia
set_option tactic.hygienic true in
theorem Zh (hs:∀i x,x∈sc i->x<5) (hi:i<5) (h1:c.1 i = -1) (hl:c.2.1.length+(sc i).length<900) :
  Fr 40 (.exs (sA EO)) (dS [("self",.ref 2),("n2i",.ref 3),("node",nV i)] (HR po c.2.2 c.1 sc c.2.1)) .next (dS ED (HR po (CY sc c i).2.2 (CY sc c i).1 sc (CY sc c i).2.1)):=by
 have e:sA EO=[dk 0,dk 1,dk 2,dk 3]++[Dz,dk 5]:=by kernel_rfl
 have eF:Dz = .For (.Name "successor" (eP (sT Dz))) (sE Dz) (sA Dz) [] (sP Dz):=by kernel_rfl
 have Hi:c.1=upd c.1 i (-1):=by
  funext x
  unfold upd
  split
  .rename_i h
   rw [eq_of_beq h,h1]
  .rfl
 have g0:=Ze (po:=po) (fin:=c.2.2) (np:=c.1) (sc:=sc) (R:=c.2.1) hi
 rw [<-Hi] at g0
 obtain ⟨gF,_⟩:=Ia (n:=8) (m:=24) (N:=26) (x:="successor") (p:=eP (sT Dz)) (q:=sP Dz) (I:=sE Dz) (body:=sA Dz) (fun d:(Nat->Int) × List Nat=>dS (GZ i) (HR po c.2.2 d.1 sc d.2)) (Ai:=.ref (5+2*i)) (kd:=false) (as:=sc i) (vV:=nV) (stp:=decr)
  (Inv:=fun r d=>d.2.length+r.length<900) (c0:=(upd c.1 i (-2),c.2.1)) (s0:=dS (GZ i) (HR po c.2.2 (upd c.1 i (-2)) sc c.2.1)) (w0:=dS (GZ i) (HR po c.2.2 (upd c.1 i (-2)) sc c.2.1))
  (.of (Zf hi)) (.refl _) (fun _ _ _=>Zg hi) (fun d=>.inl (by kernel_rfl)) (fun j r d hj inv=>by
   have:=R4 d j
   simp only [List.length_cons] at inv
   exact ⟨⟨.next,.inl rfl,Zd (hs i j hj) (by lia)⟩,by lia⟩) hl (by lia) (by lia) (by lia)
 rw [<-eF] at gF
 have g5:Fr 12 (.exs [dk 5]) (dS (GZ i) (HR po c.2.2 ((sc i).foldl decr (upd c.1 i (-2),c.2.1)).1 sc ((sc i).foldl decr (upd c.1 i (-2),c.2.1)).2)) .next (dS (GZ i) (HR po (c.2.2+1) ((sc i).foldl decr (upd c.1 i (-2),c.2.1)).1 sc ((sc i).foldl decr (upd c.1 i (-2),c.2.1)).2)):=.of (by kernel_rfl)
 rw [e]
 exact (g0.app (N:=40) (gF.exs (N:=30) g5 (by lia) (by lia)) (by lia) (by simp)).we (CG ⟨rfl,rfl,trivial⟩)
noncomputable def BA (sc:Nat->List Nat) (c:(Nat->Int) × List Nat × Int) (R:List Nat):(Nat->Int) × List Nat × Int:=R.foldl (CY sc) c
noncomputable def Ge (sc:Nat->List Nat):List Nat->(Nat->Int) × List Nat × Int->Prop
 | [],_=>True
 |i::r,c=>c.1 i = -1/\Ge sc r (CY sc c i)
theorem Zm (c:(Nat->Int) × List Nat × Int) (i:Nat):(CY sc c i).2.1.length<=c.2.1.length+(sc i).length:=bK (sc i) (upd c.1 i (-2),c.2.1)
theorem Zp (hs:∀i x,x∈sc i->x<5) (D5:∀i,(sc i).length<=100) (hR:∀i∈R,i<5) (hl:R.length<=5) (hc:c.2.1.length<=5) (ho:Ge sc R c) (E:Loc) (d:Sc) :
  Vr 60 (.call 1007 (.ref 2::R.map nV)) ⟨E,d,1,0,HR po c.2.2 c.1 sc c.2.1⟩ .none ⟨E,d,1,0,HR po (BA sc c R).2.2 (BA sc c R).1 sc (BA sc c R).2.1⟩:=by
 have e:A0 1007=[dn 0,dn 1,EO]:=by kernel_rfl
 have eF:EO = .For (.Name "node" (eP (sT EO))) (sE EO) (sA EO) [] (sP EO):=by kernel_rfl
 have g0:Fr 12 (.ex (dn 0)) (dS [("self",.ref 2),("nodes",.tup (R.map nV))] (HR po c.2.2 c.1 sc c.2.1)) .next (dS [("self",.ref 2),("nodes",.tup (R.map nV))] (HR po c.2.2 c.1 sc c.2.1)):=.of (by kernel_rfl)
 have g1:Fr 12 (.ex (dn 1)) (dS [("self",.ref 2),("nodes",.tup (R.map nV))] (HR po c.2.2 c.1 sc c.2.1)) .next (dS [("self",.ref 2),("nodes",.tup (R.map nV)),("n2i",.ref 3)] (HR po c.2.2 c.1 sc c.2.1)):=.of (by kernel_rfl)
 obtain ⟨gF,_⟩:=Ia (n:=6) (m:=40) (N:=42) (x:="node") (p:=eP (sT EO)) (q:=sP EO) (I:=sE EO) (body:=sA EO) (fun d:(Nat->Int) × List Nat × Int=>dS ED (HR po d.2.2 d.1 sc d.2.1)) (Ai:=.tup (R.map nV)) (kd:=false) (as:=R) (vV:=nV) (stp:=CY sc)
  (Inv:=fun r d=>Ge sc r d/\d.2.1.length+100*r.length<=600) (c0:=c) (s0:=dS [("self",.ref 2),("nodes",.tup (R.map nV)),("n2i",.ref 3)] (HR po c.2.2 c.1 sc c.2.1)) (w0:=dS [("self",.ref 2),("nodes",.tup (R.map nV)),("n2i",.ref 3)] (HR po c.2.2 c.1 sc c.2.1))
  (.of (by kernel_rfl)) (CG ⟨rfl,rfl,trivial⟩) (fun _ _ _=>rfl) (fun d=>.inl (by kernel_rfl)) (fun i r d hi ⟨i1,i2⟩=>by
   have h2:=Zm (sc:=sc) d i
   have h3:=D5 i
   simp only [List.length_cons] at i2
   exact ⟨⟨.next,.inl rfl,Zh hs (hR i hi) i1.1 (by lia)⟩,i1.2,by lia⟩) ⟨ho,by lia⟩ (by lia) (by lia) (by lia)
 rw [<-eF] at gF
 have gw:Fr 50 (.exs (A0 1007)) (dS [("self",.ref 2),("nodes",.tup (R.map nV))] (HR po c.2.2 c.1 sc c.2.1)) .next (dS ED (HR po (BA sc c R).2.2 (BA sc c R).1 sc (BA sc c R).2.1)):=by
  rw [e]
  exact .exs (N:=49) g0 (.exs (N:=48) g1 (.exs (N:=47) gF .nil (by lia) (by lia)) (by lia) (by lia)) (by lia) (by lia)
 have hb:Bh (Aj 1007) (.ref 2::R.map nV)=some ([("self",.ref 2),("nodes",.tup (R.map nV))]:Loc):=by
  have hlen:(V.ref 2::R.map nV).length<=1000:=by simp;lia
  unfold Bh
  rw [ak hlen]
  kernel_rfl
 exact (Ht (f:=1007) (s:=⟨E,d,1,0,HR po c.2.2 c.1 sc c.2.1⟩) (by kernel_rfl) hb (by kernel_rfl) gw (ao _) rfl).up (by lia) (.refl _)
end
section
open PySem
variable {n m N f k:Nat} {s t w w1 w2 w3:S} {v x y:V} {b:Bool} {as L:List V} {l:Loc} {K U:List Nat} {g:V->V->Option Bool} {a c:Expr} {p:Pos}
noncomputable def gen:Nat->List (List Nat)
 |0=>[[]]
 |k+1=>[]::((List.range 5).flatMap fun x=>(gen k).filterMap fun l=>if l.contains x then none else some (x::l))
theorem cE:∀(l:List Nat) (k:Nat),l.Nodup->(∀x∈l,x<5)->l.length<=k->l∈gen k:=by
 intro l
 induction l with
 |nil=>intro k _ _ _;induction k using zc <;> exact .head _
 |cons x l ih=>
  intro k hd hl h
  induction k using zc with
  |zero=>exact nomatch h
  |succ k=>
   refine List.mem_cons_of_mem _ (List.mem_flatMap.mpr ⟨x,List.mem_range.mpr (hl x (.head _)),List.mem_filterMap.mpr ⟨l,ih k (List.nodup_cons.mp hd).2 (fun y hy=>hl y (.tail _ hy)) (Nat.le_of_succ_le_succ h),?_⟩⟩)
   have:l.contains x=false:=by simpa using (List.nodup_cons.mp hd).1
   rw [this];rfl
theorem PL {l:List Nat} (hd:l.Nodup) (hl:∀x∈l,x<5):l∈gen 5:=cE l 5 hd hl (Jh hd hl)
def MY (O:List Nat):Str:=match O.map nm with
 |a::r=>K9 a r
 | []=>""
def more (O:List Nat) (k:Nat):Bool:=O.isEmpty || Dq (MY O) (nm k)
noncomputable def rest (O:List Nat):List Nat:=(List.range 5).filter fun k=>!O.contains k
def DT (O:List Nat):List Nat:=D9.filter fun k=>O.contains k
theorem tu:(gen 5).all (fun l=>decide (DB (l.map nm)=(DT l).map nm))=true:=by kernel_rfl
theorem kT:(gen 5).all (fun O=>decide (DB ((rest O++(rest O).filter (more O)).map nm)=(BZ (DT O)).map nm))=true:=by kernel_rfl
theorem uu:(gen 5).all (fun O=>(subs D9).contains (DT O))=true:=by kernel_rfl
theorem Qf {l:List Nat} (h:l∈gen 5):DB (l.map nm)=(DT l).map nm:=of_decide_eq_true (List.all_eq_true.mp tu l h)
theorem kU {O:List Nat} (h:O∈gen 5):DB ((rest O++(rest O).filter (more O)).map nm)=(BZ (DT O)).map nm:=of_decide_eq_true (List.all_eq_true.mp kT O h)
theorem uv {O:List Nat} (h:O∈gen 5):DT O∈subs D9:=List.contains_iff_mem.mp (List.all_eq_true.mp uu O h)
theorem WE (L:List Nat):Mine.CU (L.map nV)=some (L.map nm):=by
 induction L with
 |nil=>rfl
 |cons a r ih=>
  exact strs_cons ih
theorem strs_map (L:List Nat):(L.map nm).map V.str=L.map nV:=by rw [List.map_map];rfl
theorem M7 {L:List Nat} (h:items x w=some (.ok (L.map nV) w)) (hl:L.length<64) (hs:DB (L.map nm)=K.map nm) (hK:K.length<=1000):builtin "sorted" [x] w=some (.ok (Aq K) w):=by
 show JG "sorted" x w=_
 unfold JG
 rw [aj (by decide),aj (by decide),aj (by decide),aj (by decide),ak rfl]
 show AD (items x) _ w=_
 rw [AJ h]
 show (match Mine.CU (L.map nV) with | some l=>if l.length<64 then Bb ((DB l).map .str) else AG | .none=>AG) w=_
 rw [WE]
 dsimp only
 rw [ak (by simpa using hl),hs,strs_map]
 unfold Bb
 rw [ak (by simpa using hK)];rfl
theorem Lk:∀(l:List V),(∀y∈l,g y y=some true)->V.eq.all2 g l l=some true:=by
 intro l_
 induction l_ with
 |nil=>
  intro _
  exact rfl
 |cons y r AU=>
  intro h
  show both (g y y) (V.eq.all2 g r r) (fun p q=>some (p&&q))=_
  rw [h y (.head _),AU (fun z hz=>h z (.tail _ hz))]
  rfl
theorem OM (n:Nat) (L:List Nat):V.eq (n+2) (Aq L) (Aq L)=some true:=by
 show (if (L.map nV).length=(L.map nV).length then V.eq.all2 (V.eq (n+1)) (L.map nV) (L.map nV) else some false)=_
 rw [ak rfl]
 refine Lk _ fun y hy=>?_
 obtain ⟨k,_,rfl⟩:=List.mem_map.mp hy
 show some (nm k==nm k)=_
 simp
theorem ne_self (L:List Nat) (w:S):cmp .NotEq (Aq L) (Aq L) w=some (.ok false w):=by
 unfold Aq
 show AD (BR (V.eq 8 (V.lst (L.map nV)) (V.lst (L.map nV)))) _ w=_
 rw [show V.eq 8 (V.lst (L.map nV)) (V.lst (L.map nV))=some true from OM 6 L]
 rfl
theorem nH (L:List Nat) (w:S):cmp .NotEq (.lst [.tup [Aq L,.lst []],.tup [.lst [],Aq L]]) (.lst [.tup [Aq L,.lst []],.tup [.lst [],Aq L]]) w=some (.ok false w):=by
 have e:∀n,V.eq (n+3) (.tup [Aq L,.lst []]) (.tup [Aq L,.lst []])=some true:=fun n=>by
  show V.eq.all2 (V.eq (n+2)) [Aq L,.lst []] [Aq L,.lst []]=_
  refine Lk _ fun y hy=>?_
  simp only [List.mem_cons,List.not_mem_nil,or_false] at hy
  rcases hy with rfl | rfl
  .exact OM n L
  .rfl
 have e':∀n,V.eq (n+3) (.tup [.lst [],Aq L]) (.tup [.lst [],Aq L])=some true:=fun n=>by
  show V.eq.all2 (V.eq (n+2)) [.lst [],Aq L] [.lst [],Aq L]=_
  refine Lk _ fun y hy=>?_
  simp only [List.mem_cons,List.not_mem_nil,or_false] at hy
  rcases hy with rfl | rfl
  .rfl
  .exact OM n L
 have e3:V.eq 8 (.lst [.tup [Aq L,.lst []],.tup [.lst [],Aq L]]) (.lst [.tup [Aq L,.lst []],.tup [.lst [],Aq L]])=some true:=by
  show V.eq.all2 (V.eq 7) [.tup [Aq L,.lst []],.tup [.lst [],Aq L]] [.tup [Aq L,.lst []],.tup [.lst [],Aq L]]=_
  refine Lk _ fun y hy=>?_
  simp only [List.mem_cons,List.not_mem_nil,or_false] at hy
  rcases hy with rfl | rfl
  .exact e 4
  .exact e' 4
 show AD (BR (V.eq 8 (.lst [.tup [Aq L,.lst []],.tup [.lst [],Aq L]]) (.lst [.tup [Aq L,.lst []],.tup [.lst [],Aq L]]))) _ w=_
 rw [e3]
 rfl
theorem Kc (h1:Bk a=false) (h2:Bk c=false) (g1:Vr n (.ev a) s x w1) (g2:Vr m (.ev c) w1 y w) (hn:n<=N) (hm:m<=N):∃r,BG (run N) [a,c] s=some (.ok [x,y] r)/\SE w r:=by
 obtain ⟨r1,e1,z1⟩:=g1.up hn (.refl s)
 obtain ⟨r2,e2,z2⟩:=g2.up hm z1
 exact ⟨r2,by rw [F9 h1,AJ e1,F9 h2,A9,AJ e2];rfl,z2⟩
theorem aE (g:Vr n (.ev a) s (.tup L) w):∃r,BG (run n) [.Starred a p] s=some (.ok L r)/\SE w r:=by
 obtain ⟨r1,e1,z1⟩:=g
 refine ⟨r1,?_,z1⟩
 rw [Lx,AJ e1]
 show some (Out.ok (L++[]) r1)=_
 rw [List.append_nil]
theorem Vr.kh (h1:Bk a=false) (h2:Bk c=false) (g1:Vr n (.ev a) s x w1) (g2:Vr m (.ev c) w1 y w) (hn:n<=N) (hm:m<=N):Vr (N+1) (.ev (.List [a,c] p)) s (.lst [x,y]) w:=by
 obtain ⟨r,e,z⟩:=Kc h1 h2 g1 g2 hn hm
 exact ⟨r,by rw [Av,SQ,AJ e];rfl,z⟩
theorem Jg {L:Nat} (U:List Nat):(Aq U).rn L k=Aq U:=congrArg V.lst (G4 U)
theorem Ml {L:Nat} {a b:V} (h:a.rn L k=a) (g:b.rn L k=b):V.Af L k [a,b]=[a,b]:=by show [_,_]=_;rw [h,g]
theorem qw (hU:U∈subs D9) {X:List O} (E:Loc) (c:Sc):Vr 60 (.call 189 [Aq full,Aq U]) ⟨E,c,1,0,.tab::X⟩ (.tup [Aq (BZ U),.lst []]) ⟨E,c,1,0,.tab::X⟩:=by
 have h:=List.map_inj_left.mp (qx c) U hU
 have R:SR 1 X.length X ⟨[],c,1,0,[.tab]⟩ ⟨E,c,1,0,.tab::X⟩:=⟨rfl,rfl,by show 1<=rn 1 X.length 1;unfold rn;simp,ao _,rfl,by show _=_++X++[];rw [List.append_nil];rfl,fun x v e=>by exact nn e⟩
 have:=Mg (m:=60) (by kernel_rfl) (ao 60) h R
 have e1:V.Af 1 X.length [Aq full,Aq U]=[Aq full,Aq U]:=Ml (Jg _) (Jg _)
 have e2:(V.tup [Aq (BZ U),.lst []]).rn 1 X.length = .tup [Aq (BZ U),.lst []]:=congrArg V.tup (Ml (Jg _) rfl)
 rw [e1,e2] at this
 exact .of this
theorem Zi (hU:U∈subs D9) {X:List O} (E:Loc) (c:Sc):Vr 60 (.call 189 [Aq U,Aq full]) ⟨E,c,1,0,.tab::X⟩ (.tup [.lst [],Aq (BZ U)]) ⟨E,c,1,0,.tab::X⟩:=by
 have h:=List.map_inj_left.mp (Zj c) U hU
 have R:SR 1 X.length X ⟨[],c,1,0,[.tab]⟩ ⟨E,c,1,0,.tab::X⟩:=⟨rfl,rfl,by show 1<=rn 1 X.length 1;unfold rn;simp,ao _,rfl,by show _=_++X++[];rw [List.append_nil];rfl,fun x v e=>by exact nn e⟩
 have:=Mg (m:=60) (by kernel_rfl) (ao 60) h R
 have e1:V.Af 1 X.length [Aq U,Aq full]=[Aq U,Aq full]:=Ml (Jg _) (Jg _)
 have e2:(V.tup [.lst [],Aq (BZ U)]).rn 1 X.length = .tup [.lst [],Aq (BZ U)]:=congrArg V.tup (Ml rfl (Jg _))
 rw [e1,e2] at this
 exact .of this
end
section
open PySem
variable {n m N f:Nat} {s t w w1 w2 w3:S} {v x:V} {b:Bool} {as:List V} {l:Loc} {po fin:Int} {np:Nat->Int} {sc:Nat->List Nat} {R:List Nat} {c:(Nat->Int) × List Nat × Int}
theorem Ld (k:Nat) (X:List O):ins 15 k X (HR po fin np sc R)=HR po fin np sc R++X:=by
 have e1:(HR po fin np sc R).take 15=HR po fin np sc R:=rfl
 have e2:(HR po fin np sc R).drop 15=[]:=rfl
 have e3:(HR po fin np sc R).map (O.rn 15 k)=HR po fin np sc R:=by
  unfold HR HS
  simp only [List.cons_append,List.nil_append,bq,List.map_nil,Ul,Uj,Uk,Um,QE,QD,G4,Tu,Option.map_some,Option.map_none]
  rfl
 unfold ins
 rw [e1,e2,e3]
 simp
theorem VA (hR:∀i∈R,i<5) (hl:R.length<=900) (J:List O) (E:Loc) (c:Sc) :
  Vr 40 (.call 1006 [.ref 2]) ⟨E,c,1,0,HR po fin np sc R++J⟩ (.tup (R.map nV)) ⟨E,c,1,0,HR (po+R.length) fin (A7 np R) sc []++J⟩:=by
 have g:=((pH (po:=po) (fin:=fin) (np:=np) (sc:=sc) hR hl [] c).ins (L:=15) (k:=J.length) (X:=J) (ao 15) rfl).AA (E:=E) (sc:=c)
 unfold S.ins at g
 dsimp only at g
 rw [Ld,Ld] at g
 have e1:(V.tup (R.map nV)).rn 15 J.length = .tup (R.map nV):=congrArg V.tup (G4 R)
 rw [e1] at g
 exact g
theorem Zn (hs:∀i x,x∈sc i->x<5) (D5:∀i,(sc i).length<=100) (hR:∀i∈R,i<5) (hl:R.length<=5) (hc:c.2.1.length<=5) (ho:Ge sc R c) (J:List O) (E:Loc) (d:Sc) :
  Vr 60 (.call 1007 (.ref 2::R.map nV)) ⟨E,d,1,0,HR po c.2.2 c.1 sc c.2.1++J⟩ .none ⟨E,d,1,0,HR po (BA sc c R).2.2 (BA sc c R).1 sc (BA sc c R).2.1++J⟩:=by
 have g:=((Zp (po:=po) hs D5 hR hl hc ho [] d).ins (L:=15) (k:=J.length) (X:=J) (ao 15) rfl).AA (E:=E) (sc:=d)
 unfold S.ins at g
 dsimp only at g
 rw [Ld,Ld] at g
 have e1:V.Af 15 J.length (.ref 2::R.map nV) = .ref 2::R.map nV:=congrArg (V.ref 2 :: ·) (G4 R)
 have g:Vr 60 (.call 1007 (V.Af 15 J.length (.ref 2::R.map nV))) _ _ _:=g
 rw [e1] at g
 exact g
end
section
open PySem
variable {n m N f:Nat} {s t w w1 w2 w3:S} {v x:V} {b:Bool} {as:List V} {l:Loc}
def toF:Stmt:=at_ (A0 228) 1
def tt (i:Nat):Stmt:=at_ (sA toF) i
def Jw:Sc:=(Aj 228).sc
abbrev tS (E:Loc) (hp:List O):S:=⟨E,Jw,1,0,hp⟩
noncomputable def dV (d:Nat->Nat):V:=.lst ((List.range 5).map fun k=>.int (d k))
abbrev T0 (d:Nat->Nat) (ov:V) (t:Nat):Loc:=[("sorter",.ref 2),("files",.ref 1),("levels",dV d),("out",ov),("turn",.int t)]
abbrev T1 (d:Nat->Nat) (ov:V) (t:Nat) (R:List Nat):Loc:=[("sorter",.ref 2),("files",.ref 1),("levels",dV d),("out",ov),("turn",.int t),("ready",.tup (R.map nV))]
abbrev T2 (d:Nat->Nat) (ov:V) (t:Nat) (x:V):Loc:=[("sorter",.ref 2),("files",.ref 1),("levels",dV d),("out",ov),("turn",.int t),("left",x)]
noncomputable def Gu (d:Nat->Nat) (t:Nat):List Nat:=(List.range 5).filter fun k=>d k==t
noncomputable def EU (d:Nat->Nat) (t:Nat):List Nat:=(List.range 5).filter fun k=>decide (t<d k)
theorem ia (a c:Nat):((a:Int)==(c:Int))=(a==c):=by
 induction h:(a==c) using bc with
 |true=>rw [eq_of_beq h];simp
 |false=>
  have:a≠c:=fun q=>by rw [q] at h;simp at h
  exact beq_false_of_ne fun q=>this (Int.ofNat.inj q)
end
section
open PySem
variable {n m N f t k:Nat} {s w w1 w2 w3:S} {v x ov:V} {b:Bool} {as:List V} {l E:Loc} {po fin:Int} {np:Nat->Int} {sc:Nat->List Nat} {R O' K:List Nat} {d:Nat->Nat} {J X:List O} {c:Sc}
noncomputable abbrev HJ (po fin:Int) (np:Nat->Int) (sc:Nat->List Nat) (R:List Nat) (J:List O):List O:=HR po fin np sc R++J
def gE:Expr:=sE (tt 0)
theorem wK (hR:∀i∈R,i<5) (hl:R.length<=900):Fr 60 (.ex (tt 0)) (tS (T0 d ov t) (HJ po fin np sc R J)) .next (tS (T1 d ov t R) (HJ (po+R.length) fin (A7 np R) sc [] J)):=by
 have e:tt 0 = .Assign [.Name "ready" (eP (sT (tt 0)))] gE (sP (tt 0)):=by kernel_rfl
 have eE:gE = .Call (.Attribute (Cj gE) "get_ready" (Es gE)) [] [] (eP gE):=by kernel_rfl
 have g:=Jd (n:=50) (m:=40) (o:=Cj gE) (nm:="get_ready") (ap:=Es gE) (cp:=eP gE) (args:=[]) (i:=2) (f:=1006) (as:=[]) (s:=tS (T0 d ov t) (HJ po fin np sc R J)) (w1:=tS (T0 d ov t) (HJ po fin np sc R J))
  (l:=[("_node2info",.ref 3),("_ready_nodes",.ref 14),("_npassedout",.int po),("_nfinished",.int fin)]) (by kernel_rfl) (by kernel_rfl) rfl (by kernel_rfl) (by kernel_rfl) IV (VA hR hl J (T0 d ov t) Jw) (by lia)
 rw [<-eE] at g
 have g1:=F3 (x:="ready") (p:=eP (sT (tt 0))) (q:=sP (tt 0)) (by kernel_rfl) (.inl (by kernel_rfl)) g
 rw [<-e] at g1
 exact g1.up (by lia) (.refl _)
def q1:Expr:=e1 (sE (tt 1))
def q2:Expr:=e2 (sE (tt 1))
def qL:Expr:=e2 q2
def qT:Expr:=(Il qL).headD default
def LJ:Sc:=(B4 qL).names
abbrev KP (d:Nat->Nat) (ov:V) (t:Nat) (R:List Nat) (k:Nat):Loc:=[("sorter",.ref 2),("files",.ref 1),("levels",dV d),("out",ov),("turn",.int t),("ready",.tup (R.map nV)),("k",.int k)]
theorem o8 (hk:k<5):Br 10 (.ts qT) ⟨KP d ov t R k,LJ,1,0,X⟩ (d k==t) ⟨KP d ov t R k,LJ,1,0,X⟩:=by
 rw [<-ia]
 refine five k hk ?_ ?_ ?_ ?_ ?_ <;> exact .of (by kernel_rfl)
theorem oz (hk:k<5):Vr 10 (.ev (e1 qL)) ⟨KP d ov t R k,LJ,1,0,HJ po fin np sc O' J⟩ (nV k) ⟨KP d ov t R k,LJ,1,0,HJ po fin np sc O' J⟩:=by
 refine five k hk ?_ ?_ ?_ ?_ ?_ <;> exact .of (by kernel_rfl)
theorem o7:Vr 14 (.ev qL) (tS (T1 d ov t R) (HJ po fin np sc O' J)) (.lst ((Gu d t).map nV)) (tS (T1 d ov t R) (HJ po fin np sc O' J)):=by
 have e:qL = .ListComp (e1 qL) [⟨C7 qL,e2 qL,[qT],0⟩] (B4 qL) (eP qL):=by kernel_rfl
 rw [e]
 refine Io (n:=13) ?_ (by simp;exact bg (bx _ _) (by decide))
 exact FH (N:=13) (Ai:=.rng 5) (kd:=false) (as:=List.range 5) (vV:=fun k=>V.int (k:Nat)) (ea:=fun k=>⟨KP d ov t R k,LJ,1,0,HJ po fin np sc O' J⟩) (pr:=fun k=>d k==t) (g:=nV)
  (by kernel_rfl) (by kernel_rfl) (fun E DM=>rfl) (fun k _=>CG (E':=T1 d ov t R) ⟨rfl,rfl,rfl,rfl,rfl,rfl,trivial⟩)
  (fun k _=>Ep (by kernel_rfl)) (fun k hk=>IJ ((o8 (List.mem_range.mp hk)).up (by lia) (.refl _))) (fun k hk _=>(oz (List.mem_range.mp hk)).up (by lia) (.refl _))
theorem wL (hR:R.length<=5) (h1:DB (R.map nm)=K.map nm) (h2:DB ((Gu d t).map nm)=K.map nm) (hK:K.length<=900):Fr 30 (.ex (tt 1)) (tS (T1 d ov t R) (HJ po fin np sc O' J)) .next (tS (T1 d ov t R) (HJ po fin np sc O' J)):=by
 have e:tt 1 = .If (.Compare q1 [.NotEq] [q2] (eP (sE (tt 1)))) (sA (tt 1)) [] (sP (tt 1)):=by kernel_rfl
 have ea:q1 = .Call (e1 q1) [e2 q1] [] (eP q1):=by kernel_rfl
 have eb:q2 = .Call (e1 q2) [qL] [] (eP q2):=by kernel_rfl
 have ga:Vr 10 (.ev q1) (tS (T1 d ov t R) (HJ po fin np sc O' J)) (Aq K) (tS (T1 d ov t R) (HJ po fin np sc O' J)):=by
  rw [ea]
  exact .IP (N:=9) (n:=4) (m:=4) (id:="sorted") (x:=.tup (R.map nV)) (w:=tS (T1 d ov t R) (HJ po fin np sc O' J)) (w1:=tS (T1 d ov t R) (HJ po fin np sc O' J)) (by kernel_rfl) (by kernel_rfl) (.of (by kernel_rfl)) (.of (by kernel_rfl)) (M7 (L:=R) rfl (by lia) h1 (by lia)) (by lia) (by lia)
 have gb:Vr 16 (.ev q2) (tS (T1 d ov t R) (HJ po fin np sc O' J)) (Aq K) (tS (T1 d ov t R) (HJ po fin np sc O' J)):=by
  rw [eb]
  exact .IP (N:=15) (n:=4) (m:=14) (id:="sorted") (x:=.lst ((Gu d t).map nV)) (w:=tS (T1 d ov t R) (HJ po fin np sc O' J)) (w1:=tS (T1 d ov t R) (HJ po fin np sc O' J)) (by kernel_rfl) (by kernel_rfl) (.of (by kernel_rfl)) o7 (M7 (L:=Gu d t) rfl (Nat.lt_of_le_of_lt (bx _ _) (by decide)) h2 (by lia)) (by lia) (by lia)
 rw [e]
 exact .ite (N:=29) (n:=20) (m:=1) (b:=false) (.cmp (N:=19) (by kernel_rfl) ga gb (ne_self K _) (by lia) (by lia)) .nil (by lia) (by lia)
def oE:Expr:=sE (tt 2)
def oL:Expr:=e2 oE
def qa:Sc:=(B4 oL).names
def Na (ov:V) (O':List Nat) (X:List O):Prop:=ov = .lst (O'.map nV)\/∃i,ov = .ref i/\X[i]? = some (.list (O'.map nV))
theorem RP (h:Na ov O' X) (hl:(O'++R).length<=900):DF .Add ov (.lst (R.map nV)) ⟨E,c,1,0,X⟩=some (.ok (.lst ((O'++R).map nV)) ⟨E,c,1,0,X⟩):=by
 have key:listItems ov ⟨E,c,1,0,X⟩=some (.ok (O'.map nV) ⟨E,c,1,0,X⟩):=by
  rcases h with rfl | ⟨i,rfl,h⟩
  .rfl
  .exact JX (s:=⟨E,c,1,0,X⟩) h
 have e:DF .Add ov (.lst (R.map nV))=AD (listItems ov) fun l=>AD (listItems (.lst (R.map nV))) fun r=>Bb (l++r):=by
  rcases h with rfl | ⟨i,rfl,_⟩ <;> rfl
 rw [e,AJ key]
 show Bb (O'.map nV++R.map nV) _=_
 rw [<-List.map_append]
 unfold Bb
 rw [ak (by simp at hl ⊢;lia)];rfl
theorem wM (h:Na ov O' X) (hl:(O'++R).length<=900):Fr 20 (.ex (tt 2)) (tS (T1 d ov t R) X) .next (tS (T1 d (.lst ((O'++R).map nV)) t R) X):=by
 have e:tt 2 = .Assign [.Name "out" (eP (sT (tt 2)))] oE (sP (tt 2)):=by kernel_rfl
 have eE:oE = .BinOp (e1 oE) .Add oL (eP oE):=by kernel_rfl
 have eL:oL = .ListComp (e1 oL) [⟨C7 oL,e2 oL,[],0⟩] (B4 oL) (eP oL):=by kernel_rfl
 have gl:Vr 12 (.ev oL) (tS (T1 d ov t R) X) (.lst (R.map nV)) (tS (T1 d ov t R) X):=by
  rw [eL]
  have hf:R.filter (fun _=>true)=R:=List.filter_eq_self.mpr fun _ _=>rfl
  have hc:=FH (N:=11) (Am:=e1 oL) (target:=C7 oL) (iter:=e2 oL) (Ak:=[]) (asy:=0) (sc:=B4 oL) (s0:=tS (T1 d ov t R) X) (Ai:=.tup (R.map nV)) (kd:=false) (as:=R) (vV:=nV) (ea:=fun k=>⟨[("sorter",.ref 2),("files",.ref 1),("levels",dV d),("out",ov),("turn",.int t),("ready",.tup (R.map nV)),("name",nV k)],qa,1,0,X⟩) (pr:=fun _=>true) (g:=nV)
   (by kernel_rfl) (by kernel_rfl) (fun E DM=>rfl) (fun k _=>CG (E':=T1 d ov t R) ⟨rfl,rfl,rfl,rfl,rfl,rfl,trivial⟩)
   (fun k _=>Ep (by kernel_rfl)) (fun k hk=>⟨_,rfl,.refl _⟩) (fun k hk _=>⟨_,by kernel_rfl,.refl _⟩)
  rw [hf] at hc
  exact Io hc (by simp at hl ⊢;lia)
 have g:Vr 14 (.ev oE) (tS (T1 d ov t R) X) (.lst ((O'++R).map nV)) (tS (T1 d ov t R) X):=by
  rw [eE]
  exact .DF (N:=13) (n:=4) (m:=12) (x:=ov) (w1:=tS (T1 d ov t R) X) (.of (by kernel_rfl)) gl (RP h hl) (by lia) (by lia)
 have g1:=F3 (x:="out") (p:=eP (sT (tt 2))) (q:=sP (tt 2)) (by kernel_rfl) (.inr (by kernel_rfl)) g
 rw [<-e] at g1
 exact g1.up (by lia) (.refl _)
def nE:Expr:=sE (tt 3)
def nA:Expr:=match nE with | .Call _ (.Starred a _::_) _ _=>a | e=>e
def Ua:Pos:=match nE with | .Call _ (.Starred _ p::_) _ _=>p | _=>default
theorem wN (hs:∀i x,x∈sc i->x<5) (D5:∀i,(sc i).length<=100) (hR:∀i∈R,i<5) (hl:R.length<=5) (ho:Ge sc R (np,[],fin)) :
  Fr 80 (.ex (tt 3)) (tS (T1 d ov t R) (HJ po fin np sc [] J)) .next (tS (T1 d ov t R) (HJ po (BA sc (np,[],fin) R).2.2 (BA sc (np,[],fin) R).1 sc (BA sc (np,[],fin) R).2.1 J)):=by
 have e:tt 3 = .Expr nE (sP (tt 3)):=by kernel_rfl
 have eE:nE = .Call (.Attribute (Cj nE) "done" (Es nE)) [.Starred nA Ua] [] (eP nE):=by kernel_rfl
 have ga:Vr 70 (.ev nA) (tS (T1 d ov t R) (HJ po fin np sc [] J)) (.tup (R.map nV)) (tS (T1 d ov t R) (HJ po fin np sc [] J)):=.of (by kernel_rfl)
 have g:=Jd (n:=70) (m:=60) (o:=Cj nE) (nm:="done") (ap:=Es nE) (cp:=eP nE) (args:=[.Starred nA Ua]) (i:=2) (f:=1007) (as:=R.map nV) (s:=tS (T1 d ov t R) (HJ po fin np sc [] J)) (w1:=tS (T1 d ov t R) (HJ po fin np sc [] J))
  (l:=[("_node2info",.ref 3),("_ready_nodes",.ref 14),("_npassedout",.int po),("_nfinished",.int fin)]) (by kernel_rfl) (by kernel_rfl) rfl (by kernel_rfl) (by kernel_rfl) (aE ga) (Zn (po:=po) hs D5 hR hl (c:=(np,[],fin)) (by simp) ho J (T1 d ov t R) Jw) (by lia)
 rw [<-eE] at g
 rw [e]
 exact Fr.up (.expr (by rfl) g) (by lia) (.refl _)
end
section
open PySem
variable {n m N f:Nat} {s t w w1 w2 w3:S} {v x:V} {b b1 b2:Bool} {as:List V} {l:Loc} {a c:Expr} {p:Pos}
theorem int_lt (a c:Nat):decide ((a:Int)<(c:Int))=decide (a<c):=decide_eq_decide.mpr (by omega)
theorem Br.oA (g1:Br n (.ts a) s b1 w1) (g2:b1=false->Br m (.ts c) w1 b2 w) (hw:b1=true->SE w w1) (h1:n<=N) (h2:m<=N):Br (N+1) (.ts (.BoolOp .Or [a,c] p)) s (b1 || b2) w:=by
 obtain ⟨r1,e1,z1⟩:=g1.up h1 (.refl s)
 have c1:∀(e:Expr) (r:List Expr),Gg (run N) (e::r)=AD (Ih.b (run N) (.ts e)) fun c=>if c then AF true else Gg (run N) r:=fun _ _=>rfl
 induction b1 using bc with
 |true=>
  refine ⟨r1,?_,(hw rfl).trans z1⟩
  rw [Av,Qs,c1,AJ e1];rfl
 |false=>
  obtain ⟨r2,e2,z2⟩:=(g2 rfl).up h2 z1
  refine ⟨r2,?_,z2⟩
  rw [Av,Qs,c1,AJ e1,aj (by decide),c1,AJ e2]
  induction b2 using bc <;> rfl
end
section
open PySem
variable {n m N f t k i:Nat} {s w w1 w2 w3:S} {v x ov:V} {b:Bool} {as:List V} {l:Loc} {po fin:Int} {np:Nat->Int} {sc:Nat->List Nat} {R O' G K U:List Nat} {d:Nat->Nat} {J X:List O}
def lL:Expr:=sE (tt 4)
def lT:Expr:=(Il lL).headD default
def LH:Sc:=(B4 lL).names
abbrev KO (d:Nat->Nat) (ov:V) (t:Nat) (k:Nat):Loc:=[("sorter",.ref 2),("files",.ref 1),("levels",dV d),("out",ov),("turn",.int t),("k",.int k)]
theorem jJ (hk:k<5):Br 10 (.ts lT) ⟨KO d ov t k,LH,1,0,X⟩ (decide (t<d k)) ⟨KO d ov t k,LH,1,0,X⟩:=by
 rw [<-int_lt]
 refine five k hk ?_ ?_ ?_ ?_ ?_ <;> exact .of (by kernel_rfl)
theorem jI (hk:k<5):Vr 10 (.ev (e1 lL)) ⟨KO d ov t k,LH,1,0,HJ po fin np sc R J⟩ (nV k) ⟨KO d ov t k,LH,1,0,HJ po fin np sc R J⟩:=by
 refine five k hk ?_ ?_ ?_ ?_ ?_ <;> exact .of (by kernel_rfl)
theorem wO:Fr 20 (.ex (tt 4)) (tS (T0 d ov t) (HJ po fin np sc R J)) .next (tS (T2 d ov t (.ref (HJ po fin np sc R J).length)) (HJ po fin np sc R J++[.list ((EU d t).map nV)])):=by
 have e:tt 4 = .Assign [.Name "left" (eP (sT (tt 4)))] lL (sP (tt 4)):=by kernel_rfl
 have eL:lL = .ListComp (e1 lL) [⟨C7 lL,e2 lL,[lT],0⟩] (B4 lL) (eP lL):=by kernel_rfl
 have hc:∃s',comp (run 13) (e1 lL) (C7 lL) (e2 lL) [lT] 0 (B4 lL) (tS (T0 d ov t) (HJ po fin np sc R J))=some (.ok ((EU d t).map nV) s')/\SE (tS (T0 d ov t) (HJ po fin np sc R J)) s':=
  FH (N:=13) (Ai:=.rng 5) (kd:=false) (as:=List.range 5) (vV:=fun k=>V.int (k:Nat)) (ea:=fun k=>⟨KO d ov t k,LH,1,0,HJ po fin np sc R J⟩) (pr:=fun k=>decide (t<d k)) (g:=nV)
   (by kernel_rfl) (by kernel_rfl) (fun E DM=>rfl) (fun k _=>CG (E':=T0 d ov t) ⟨rfl,rfl,rfl,rfl,rfl,trivial⟩)
   (fun k _=>Ep (by kernel_rfl)) (fun k hk=>IJ ((jJ (List.mem_range.mp hk)).up (by omega) (.refl _))) (fun k hk _=>(jI (List.mem_range.mp hk)).up (by omega) (.refl _))
 obtain ⟨r,er,z⟩:=MT (p:=eP lL) hc (by simp;exact bg (bx _ _) (by decide))
 rw [<-eL] at er
 have g:=Ln (n:=14) (x:="left") (p:=eP (sT (tt 4))) (q:=sP (tt 4)) (e:=lL) (by kernel_rfl) (s':=r) (by rw [z.sc];exact .inl (by kernel_rfl)) er
 rw [e]
 refine Fr.up (n:=15) ⟨_,g,z.sc,z.hd,z.lo,z.hp,fun y u ey=>?_⟩ (by omega) (.refl _)
 have ey:AN y (Ao "left" (.ref (HJ po fin np sc R J).length) (T0 d ov t))=some u:=ey
 show AN y (Ao "left" (.ref (HJ po fin np sc R J).length) r.AA)=some u
 rw [Hg] at ey ⊢
 by_cases hy:y = "left"
 .rw [ak hy] at ey ⊢;exact ey
 .rw [aj hy] at ey ⊢;exact z.AA y u ey
def mE:Expr:=sE (tt 5)
def mB:Expr:=e2 mE
def mL:Expr:=e2 mB
def mT:Expr:=(Il mL).headD default
def UP:Expr:=e1 mT
def Jb:Expr:=e2 mT
def mX:Expr:=e2 Jb
def Eh:Sc:=(B4 mL).names
abbrev EK (d:Nat->Nat) (ov:V) (t:Nat) (x:V) (k:Nat):Loc:=[("sorter",.ref 2),("files",.ref 1),("levels",dV d),("out",ov),("turn",.int t),("left",x),("name",nV k)]
theorem lH:Br 10 (.ts UP) ⟨EK d (.lst (O'.map nV)) t (.ref i) k,Eh,1,0,X⟩ O'.isEmpty ⟨EK d (.lst (O'.map nV)) t (.ref i) k,Eh,1,0,X⟩:=by
 induction O' using lc with
 |nil=>exact .of (by kernel_rfl)
 |cons a r=>exact .of (by kernel_rfl)
theorem lI (h:O'≠[]):Br 14 (.ts Jb) ⟨EK d (.lst (O'.map nV)) t (.ref i) k,Eh,1,0,X⟩ (Dq (MY O') (nm k)) ⟨EK d (.lst (O'.map nV)) t (.ref i) k,Eh,1,0,X⟩:=by
 have e:Jb = .Compare (e1 Jb) [.Gt] [mX] (eP Jb):=by kernel_rfl
 have eX:mX = .Call (e1 mX) [e2 mX] [] (eP mX):=by kernel_rfl
 rw [e]
 have gx:Vr 10 (.ev mX) ⟨EK d (.lst (O'.map nV)) t (.ref i) k,Eh,1,0,X⟩ (.str (MY O')) ⟨EK d (.lst (O'.map nV)) t (.ref i) k,Eh,1,0,X⟩:=by
  rw [eX]
  refine .IP (N:=9) (n:=4) (m:=4) (id:="max") (x:=.lst (O'.map nV)) (w:=⟨EK d (.lst (O'.map nV)) t (.ref i) k,Eh,1,0,X⟩) (w1:=⟨EK d (.lst (O'.map nV)) t (.ref i) k,Eh,1,0,X⟩) (by kernel_rfl) (by kernel_rfl) (.of (by kernel_rfl)) (.of (by kernel_rfl)) ?_ (by omega) (by omega)
  induction O' using lc with
  |nil=>exact (h rfl).elim
  |cons a r=>
   show maxV ((a::r).map nV) _=_
   unfold maxV
   rw [WE]
   rfl
 exact .cmp (N:=13) (n:=4) (m:=10) (x:=nV k) (y:=.str (MY O')) (w1:=⟨EK d (.lst (O'.map nV)) t (.ref i) k,Eh,1,0,X⟩) (w:=⟨EK d (.lst (O'.map nV)) t (.ref i) k,Eh,1,0,X⟩) (by kernel_rfl) (.of (by kernel_rfl)) gx rfl (by omega) (by omega)
theorem lJ:Br 16 (.ts mT) ⟨EK d (.lst (O'.map nV)) t (.ref i) k,Eh,1,0,X⟩ (more O' k) ⟨EK d (.lst (O'.map nV)) t (.ref i) k,Eh,1,0,X⟩:=by
 have e:mT = .BoolOp .Or [UP,Jb] (eP mT):=by kernel_rfl
 rw [e]
 exact .oA (N:=15) lH (fun h=>lI (fun q=>by rw [q] at h;exact Bool.noConfusion h)) (fun _=>.refl _) (by omega) (by omega)
theorem wQ (hX:X[i]? = some (.list (G.map nV))) (hG:G.length<=5) (hK:DB ((G++G.filter (more O')).map nm)=K.map nm) (hKl:K.length<=900) :
  Fr 40 (.ex (tt 5)) (tS (T2 d (.lst (O'.map nV)) t (.ref i)) X) .next (tS (T2 d (.lst (O'.map nV)) t (Aq K)) X):=by
 have e:tt 5 = .Assign [.Name "left" (eP (sT (tt 5)))] mE (sP (tt 5)):=by kernel_rfl
 have eE:mE = .Call (e1 mE) [mB] [] (eP mE):=by kernel_rfl
 have eB:mB = .BinOp (e1 mB) .Add mL (eP mB):=by kernel_rfl
 have eL:mL = .ListComp (e1 mL) [⟨C7 mL,e2 mL,[mT],0⟩] (B4 mL) (eP mL):=by kernel_rfl
 have hf:(G.filter (more O')).length<=5:=bg (bx _ _) hG
 have gl:Vr 20 (.ev mL) (tS (T2 d (.lst (O'.map nV)) t (.ref i)) X) (.lst ((G.filter (more O')).map nV)) (tS (T2 d (.lst (O'.map nV)) t (.ref i)) X):=by
  rw [eL]
  have Ct:∀E DM,Bg (.ref i) ⟨E,DM,1,0,X⟩=some (.ok (false,G.map nV) ⟨E,DM,1,0,X⟩):=fun E DM=>by
   show AD (A4 i) _ _=_
   rw [AJ (DR (w:=⟨E,DM,1,0,X⟩) hX)];rfl
  have hc:=FH (N:=19) (Am:=e1 mL) (target:=C7 mL) (iter:=e2 mL) (Ak:=[mT]) (asy:=0) (sc:=B4 mL) (s0:=tS (T2 d (.lst (O'.map nV)) t (.ref i)) X) (Ai:=.ref i) (kd:=false) (as:=G) (vV:=nV) (ea:=fun k=>⟨EK d (.lst (O'.map nV)) t (.ref i) k,Eh,1,0,X⟩) (pr:=more O') (g:=nV)
   (by kernel_rfl) (by kernel_rfl) Ct (fun k _=>CG (E':=T2 d (.lst (O'.map nV)) t (.ref i)) ⟨rfl,rfl,rfl,rfl,rfl,rfl,trivial⟩)
   (fun k _=>Ep (by kernel_rfl)) (fun k hk=>IJ (lJ.up (by omega) (.refl _))) (fun k hk _=>⟨_,by kernel_rfl,.refl _⟩)
  exact Io hc (by simp;omega)
 have gb:Vr 22 (.ev mB) (tS (T2 d (.lst (O'.map nV)) t (.ref i)) X) (.lst ((G++G.filter (more O')).map nV)) (tS (T2 d (.lst (O'.map nV)) t (.ref i)) X):=by
  rw [eB]
  exact .DF (N:=21) (n:=4) (m:=20) (x:=.ref i) (w1:=tS (T2 d (.lst (O'.map nV)) t (.ref i)) X) (.of (by kernel_rfl)) gl (RP (.inr ⟨i,rfl,hX⟩) (by simp;omega)) (by omega) (by omega)
 have g:Vr 24 (.ev mE) (tS (T2 d (.lst (O'.map nV)) t (.ref i)) X) (Aq K) (tS (T2 d (.lst (O'.map nV)) t (.ref i)) X):=by
  rw [eE]
  exact .IP (N:=23) (n:=4) (m:=22) (id:="sorted") (x:=.lst ((G++G.filter (more O')).map nV)) (w:=tS (T2 d (.lst (O'.map nV)) t (.ref i)) X) (w1:=tS (T2 d (.lst (O'.map nV)) t (.ref i)) X) (by kernel_rfl) (by kernel_rfl) (.of (by kernel_rfl)) gb (M7 (L:=G++G.filter (more O')) rfl (by simp;omega) hK (by omega)) (by omega) (by omega)
 have g1:=F3 (x:="left") (p:=eP (sT (tt 5))) (q:=sP (tt 5)) (by kernel_rfl) (.inl (by kernel_rfl)) g
 rw [<-e] at g1
 exact g1.up (by omega) (.refl _)
def zE:Expr:=sE (tt 6)
def zA:Expr:=e1 zE
def zB:Expr:=e2 zE
def z1:Expr:=e1 zA
def z2:Expr:=e2 zA
theorem wU (hU:U∈subs D9) (hs:DB (O'.map nm)=U.map nm) (hO:O'.length<=5) (hUl:U.length<=900) (hK:K=BZ U) :
  Fr 70 (.ex (tt 6)) (tS (T2 d (.lst (O'.map nV)) t (Aq K)) (HJ po fin np sc R J)) .next (tS (T2 d (.lst (O'.map nV)) t (Aq K)) (HJ po fin np sc R J)):=by
 subst hK
 have e:tt 6 = .If (.Compare zA [.NotEq] [zB] (eP zE)) (sA (tt 6)) [] (sP (tt 6)):=by kernel_rfl
 have eA:zA = .List [z1,z2] (eP zA):=by kernel_rfl
 have aT:z1 = .Call (e1 z1) [e2 z1,(match z1 with | .Call _ (_::b::_) _ _=>b | e=>e)] [] (eP z1):=by kernel_rfl
 have aU:z2 = .Call (e1 z2) [e2 z2,(match z2 with | .Call _ (_::b::_) _ _=>b | e=>e)] [] (eP z2):=by kernel_rfl
 have hd:HJ po fin np sc R J = .tab::(HJ po fin np sc R J).drop 1:=rfl
 have gf:∀(X:Expr),X=e2 z1\/X=(match z2 with | .Call _ (_::b::_) _ _=>b | e=>e)->Vr 14 (.ev X) (tS (T2 d (.lst (O'.map nV)) t (Aq (BZ U))) (HJ po fin np sc R J)) (Aq full) (tS (T2 d (.lst (O'.map nV)) t (Aq (BZ U))) (HJ po fin np sc R J)):=fun X hX=>by
  rcases hX with rfl | rfl
  .exact .of (by kernel_rfl)
  .exact .of (by kernel_rfl)
 have go:∀(X:Expr),X=e2 z2\/X=(match z1 with | .Call _ (_::b::_) _ _=>b | e=>e)->Vr 14 (.ev X) (tS (T2 d (.lst (O'.map nV)) t (Aq (BZ U))) (HJ po fin np sc R J)) (Aq U) (tS (T2 d (.lst (O'.map nV)) t (Aq (BZ U))) (HJ po fin np sc R J)):=fun X hX=>by
  have eX:X = .Call (e1 X) [e2 X] [] (eP X):=by rcases hX with rfl | rfl <;> kernel_rfl
  have h1:Ih.v (run 4) (.ev (e1 X)) (tS (T2 d (.lst (O'.map nV)) t (Aq (BZ U))) (HJ po fin np sc R J))=some (.ok (.bi "sorted") (tS (T2 d (.lst (O'.map nV)) t (Aq (BZ U))) (HJ po fin np sc R J))):=by rcases hX with rfl | rfl <;> kernel_rfl
  have h2:Ih.v (run 4) (.ev (e2 X)) (tS (T2 d (.lst (O'.map nV)) t (Aq (BZ U))) (HJ po fin np sc R J))=some (.ok (.lst (O'.map nV)) (tS (T2 d (.lst (O'.map nV)) t (Aq (BZ U))) (HJ po fin np sc R J))):=by rcases hX with rfl | rfl <;> kernel_rfl
  have h3:GI (e1 X)=false:=by rcases hX with rfl | rfl <;> kernel_rfl
  have h4:Bk (e2 X)=false:=by rcases hX with rfl | rfl <;> kernel_rfl
  rw [eX]
  exact .IP (N:=13) (n:=4) (m:=4) (id:="sorted") (x:=.lst (O'.map nV)) (w:=tS (T2 d (.lst (O'.map nV)) t (Aq (BZ U))) (HJ po fin np sc R J)) (w1:=tS (T2 d (.lst (O'.map nV)) t (Aq (BZ U))) (HJ po fin np sc R J)) h3 h4 (.of h1) (.of h2) (M7 (L:=O') rfl (by omega) hs (by omega)) (by omega) (by omega)
 have gA:Vr 61 (.ev z1) (tS (T2 d (.lst (O'.map nV)) t (Aq (BZ U))) (HJ po fin np sc R J)) (.tup [Aq (BZ U),.lst []]) (tS (T2 d (.lst (O'.map nV)) t (Aq (BZ U))) (HJ po fin np sc R J)):=
  Gl (n:=60) (m:=60) (E:=z1) (a:=189) (l:=[Aq full,Aq U]) aT (by kernel_rfl) (by kernel_rfl) (fun l=>rfl) (Kc (by kernel_rfl) (by kernel_rfl) (gf _ (.inl rfl)) (go _ (.inr rfl)) (by omega) (by omega)) (qw hU (X:=(HJ po fin np sc R J).drop 1) _ Jw) (by omega)
 have gB:Vr 61 (.ev z2) (tS (T2 d (.lst (O'.map nV)) t (Aq (BZ U))) (HJ po fin np sc R J)) (.tup [.lst [],Aq (BZ U)]) (tS (T2 d (.lst (O'.map nV)) t (Aq (BZ U))) (HJ po fin np sc R J)):=
  Gl (n:=60) (m:=60) (E:=z2) (a:=189) (l:=[Aq U,Aq full]) aU (by kernel_rfl) (by kernel_rfl) (fun l=>rfl) (Kc (by kernel_rfl) (by kernel_rfl) (go _ (.inl rfl)) (gf _ (.inr rfl)) (by omega) (by omega)) (Zi hU (X:=(HJ po fin np sc R J).drop 1) _ Jw) (by omega)
 have g1:Vr 63 (.ev zA) (tS (T2 d (.lst (O'.map nV)) t (Aq (BZ U))) (HJ po fin np sc R J)) (.lst [.tup [Aq (BZ U),.lst []],.tup [.lst [],Aq (BZ U)]]) (tS (T2 d (.lst (O'.map nV)) t (Aq (BZ U))) (HJ po fin np sc R J)):=by
  rw [eA]
  exact .kh (N:=62) (by kernel_rfl) (by kernel_rfl) gA gB (by omega) (by omega)
 have g2:Vr 10 (.ev zB) (tS (T2 d (.lst (O'.map nV)) t (Aq (BZ U))) (HJ po fin np sc R J)) (.lst [.tup [Aq (BZ U),.lst []],.tup [.lst [],Aq (BZ U)]]) (tS (T2 d (.lst (O'.map nV)) t (Aq (BZ U))) (HJ po fin np sc R J)):=.of (by kernel_rfl)
 rw [e]
 exact .ite (N:=69) (n:=66) (m:=1) (b:=false) (.cmp (N:=65) (by kernel_rfl) g1 g2 (nH (BZ U) _) (by omega) (by omega)) .nil (by omega) (by omega)
end
section
open PySem
variable {n m N f t k:Nat} {s w w1 w2 w3:S} {v x:V} {b:Bool} {as:List V} {l:Loc} {A B:List Nat} {d:Nat->Nat}
theorem iP (h:∀k,k<5->(k∈A<->k∈B)):DT A=DT B:=by
 unfold DT
 refine List.filter_congr fun k hk=>?_
 have Oz:k<5:=by
  have:D9.all (fun k=>decide (k<5))=true:=by decide
  exact of_decide_eq_true (List.all_eq_true.mp this k hk)
 have:=h k Oz
 by_cases hA:k∈A
 .have hB:=this.mp hA
  simp [hA,hB]
 .have hB:k∉B:=fun q=>hA (this.mpr q)
  simp [hA,hB]
theorem k6:(gen 5).all (fun O=>decide ((BZ (DT O)).length<=900))=true:=by kernel_rfl
theorem kW {O:List Nat} (h:O∈gen 5):(BZ (DT O)).length<=900:=of_decide_eq_true (List.all_eq_true.mp k6 O h)
theorem iy (d:Nat->Nat) (t:Nat):(Gu d t).Nodup:=List.Pairwise.filter _ List.nodup_range
theorem Tn:k∈Gu d t<->k<5/\d k=t:=by unfold Gu;simp
end
section
open PySem
variable {n m N f t k:Nat} {s w w1 w2 w3:S} {v x ov:V} {b:Bool} {as:List V} {l:Loc} {po fin:Int} {np:Nat->Int} {sc:Nat->List Nat} {R O':List Nat} {d:Nat->Nat} {J:List O} {e:Expr} {p:Pos}
def Lg (ov:V) (O':List Nat) (J:List O):Prop:=ov = .lst (O'.map nV)\/ov = .ref 15/\J[0]? = some (.list (O'.map nV))
theorem Lg.is (h:Lg ov O' J):Na ov O' (HJ po fin np sc R J):=by
 rcases h with h | ⟨h1,h2⟩
 .exact .inl h
 .exact .inr ⟨15,h1,h2⟩
structure HG (d:Nat->Nat) (t:Nat) (R O':List Nat):Prop where
 rn:R.Nodup
 rm:∀k,k∈R<->k<5/\d k=t
 on:O'.Nodup
 om:∀k,k∈O'<->k<5/\d k<t
theorem HG.app (r:HG d t R O'):(O'++R).Nodup/\∀k,k∈O'++R<->k<5/\d k<t+1:=by
 refine ⟨List.nodup_append.mpr ⟨r.on,r.rn,fun a ha b hb e=>?_⟩,fun k=>?_⟩
 .have h1:=(r.om a).mp ha
  have h2:=(r.rm b).mp hb
  subst e
  lia
 .rw [List.mem_append,r.om,r.rm]
  constructor
  .rintro (h | h) <;> exact ⟨h.1,by lia⟩
  .rintro ⟨h1,h2⟩
   by_cases h:d k=t
   .exact .inr ⟨h1,h⟩
   .exact .inl ⟨h1,by lia⟩
theorem HG.gt (r:HG d t R O'):EU d t=rest (O'++R):=by
 unfold EU rest
 refine List.filter_congr fun k hk=>?_
 have Oz:=List.mem_range.mp hk
 have h:=r.app.2 k
 by_cases hd:t<d k
 .have:k∉O'++R:=fun q=>by have:=(h.mp q).2;lia
  have hc:(O'++R).contains k=false:=by simpa using this
  rw [hc];simp [hd]
 .have:k∈O'++R:=h.mpr ⟨Oz,by lia⟩
  have hc:(O'++R).contains k=true:=by simpa using this
  rw [hc];simp [hd]
abbrev T4 (d:Nat->Nat) (ov:V):Loc:=[("sorter",.ref 2),("files",.ref 1),("levels",dV d),("out",ov)]
theorem wc (hs:∀i x,x∈sc i->x<5) (D5:∀i,(sc i).length<=100) (ho:Lg ov O' J) (r:HG d t R O') (gu:Ge sc R (A7 np R,[],fin)) :
  Fr 90 (.exs (sA toF)) (tS (T0 d ov t) (HJ po fin np sc R J)) .next (tS (T4 d (.lst ((O'++R).map nV))) (HJ (po+R.length) (BA sc (A7 np R,[],fin) R).2.2 (BA sc (A7 np R,[],fin) R).1 sc (BA sc (A7 np R,[],fin) R).2.1 (J++[.list ((EU d t).map nV)]))):=by
 have e:sA toF=[tt 0,tt 1,tt 2,tt 3,tt 4,tt 5,tt 6]:=by kernel_rfl
 have hR:∀i∈R,i<5:=fun i hi=>((r.rm i).mp hi).1
 have hl:R.length<=5:=Jh r.rn hR
 have eZ:R∈gen 5:=PL r.rn hR
 have eY:Gu d t∈gen 5:=PL (iy d t) fun i hi=>(Tn.mp hi).1
 have S7:∀i∈O'++R,i<5:=fun i hi=>((r.app.2 i).mp hi).1
 have eW:(O'++R).length<=5:=Jh r.app.1 S7
 have MB:O'++R∈gen 5:=PL r.app.1 S7
 have hO:∀A,(DT A).length<=900:=fun A=>bg (bx _ _) (by decide)
 have fX:(EU d t).length<=5:=bg (bx _ _) (by decide)
 have g0:=wK (po:=po) (fin:=fin) (np:=np) (sc:=sc) (d:=d) (t:=t) (ov:=ov) (J:=J) hR (by lia)
 have g1:=wL (po:=po+R.length) (fin:=fin) (np:=A7 np R) (sc:=sc) (O':=[]) (d:=d) (t:=t) (ov:=ov) (J:=J) (K:=DT R) hl (Qf eZ) (by rw [Qf eY,iP (A:=Gu d t) (B:=R) fun k _=>Tn.trans (r.rm k).symm]) (hO R)
 have g2:=wM (R:=R) (d:=d) (t:=t) (ho.is (po:=po+R.length) (fin:=fin) (np:=A7 np R) (sc:=sc) (R:=[])) (by lia)
 have g3:=(wN (po:=po+R.length) (fin:=fin) (np:=A7 np R) (sc:=sc) (d:=d) (t:=t) (ov:=.lst ((O'++R).map nV)) (J:=J) hs D5 hR hl gu).we (w1:=tS (T0 d (.lst ((O'++R).map nV)) t) (HJ (po+R.length) (BA sc (A7 np R,[],fin) R).2.2 (BA sc (A7 np R,[],fin) R).1 sc (BA sc (A7 np R,[],fin) R).2.1 J)) (CG ⟨rfl,rfl,rfl,rfl,rfl,trivial⟩)
 have g4:=wO (po:=po+R.length) (fin:=(BA sc (A7 np R,[],fin) R).2.2) (np:=(BA sc (A7 np R,[],fin) R).1) (sc:=sc) (R:=(BA sc (A7 np R,[],fin) R).2.1) (d:=d) (t:=t) (ov:=.lst ((O'++R).map nV)) (J:=J)
 have eJ:HJ (po+R.length) (BA sc (A7 np R,[],fin) R).2.2 (BA sc (A7 np R,[],fin) R).1 sc (BA sc (A7 np R,[],fin) R).2.1 J++[.list ((EU d t).map nV)]=HJ (po+R.length) (BA sc (A7 np R,[],fin) R).2.2 (BA sc (A7 np R,[],fin) R).1 sc (BA sc (A7 np R,[],fin) R).2.1 (J++[.list ((EU d t).map nV)]):=by
  unfold HJ
  rw [List.append_assoc]
 have g5:=wQ (O':=O'++R) (d:=d) (t:=t) (X:=HJ (po+R.length) (BA sc (A7 np R,[],fin) R).2.2 (BA sc (A7 np R,[],fin) R).1 sc (BA sc (A7 np R,[],fin) R).2.1 J++[.list ((EU d t).map nV)]) (i:=(HJ (po+R.length) (BA sc (A7 np R,[],fin) R).2.2 (BA sc (A7 np R,[],fin) R).1 sc (BA sc (A7 np R,[],fin) R).2.1 J).length)
  (G:=EU d t) (K:=BZ (DT (O'++R))) (by rw [List.getElem?_concat_length]) fX (by rw [r.gt];exact kU MB) (kW MB)
 rw [eJ] at g4 g5
 have g6:=(wU (po:=po+R.length) (fin:=(BA sc (A7 np R,[],fin) R).2.2) (np:=(BA sc (A7 np R,[],fin) R).1) (sc:=sc) (R:=(BA sc (A7 np R,[],fin) R).2.1) (O':=O'++R) (d:=d) (t:=t) (J:=J++[.list ((EU d t).map nV)]) (U:=DT (O'++R)) (K:=BZ (DT (O'++R))) (uv MB) (Qf MB) eW (hO _) rfl).we (w1:=tS (T4 d (V.lst ((O'++R).map nV))) (HJ (po+R.length) (BA sc (A7 np R,[],fin) R).2.2 (BA sc (A7 np R,[],fin) R).1 sc (BA sc (A7 np R,[],fin) R).2.1 (J++[.list ((EU d t).map nV)]))) (CG (E':=T4 d (V.lst ((O'++R).map nV))) ⟨rfl,rfl,rfl,rfl,trivial⟩)
 rw [e]
 exact .exs (N:=89) g0 (.exs (N:=88) g1 (.exs (N:=87) g2 (.exs (N:=86) g3 (.exs (N:=85) g4 (.exs (N:=84) g5 (.exs (N:=83) g6 .nil (by lia) (by lia)) (by lia) (by lia)) (by lia) (by lia)) (by lia) (by lia)) (by lia) (by lia)) (by lia) (by lia)) (by lia) (by lia)
structure TC where
 np:Nat->Int
 R:List Nat
 out:List Nat
 po:Int
 fin:Int
 J:List O
 ov:V
def V9 (sc:Nat->List Nat) (d:Nat->Nat) (c:TC) (t:Nat):TC:=
 ⟨(BA sc (A7 c.np c.R,[],c.fin) c.R).1,(BA sc (A7 c.np c.R,[],c.fin) c.R).2.1,c.out++c.R,c.po+c.R.length,(BA sc (A7 c.np c.R,[],c.fin) c.R).2.2,c.J++[.list ((EU d t).map nV)],.lst ((c.out++c.R).map nV)⟩
def J6:Expr:=match at_ (A0 228) 2 with | .Return (some e) _=>e | _=>default
def toG:Expr:=e1 J6
def vZ:Pos:=match at_ (A0 228) 2 with | .Return _ p=>p | _=>default
theorem Fr.VD (g:Vr n (.ev e) s v w):Fr (n+1) (.ex (.Return (some e) p)) s (.ret v) w:=by
 obtain ⟨r,er,z⟩:=g
 exact ⟨r,by rw [Av,OS,AJ er];rfl,z⟩
theorem ve (hs:∀i x,x∈sc i->x<5) (D5:∀i,(sc i).length<=100) (h5:∀k,k<5->d k≠5) (Np:Nat->(Nat->Int)->Prop)
  (iF:∀t np R O' fin,t<5->HG d t R O'->Np t np->Ge sc R (A7 np R,[],fin)/\Np (t+1) (BA sc (A7 np R,[],fin) R).1/\(BA sc (A7 np R,[],fin) R).2.1.Nodup/\∀k,k∈(BA sc (A7 np R,[],fin) R).2.1<->k<5/\d k=t+1)
  (h0:Np 0 np) (hR:R.Nodup) (hm:∀k,k∈R<->k<5/\d k=0) (E:Loc) (c:Sc) :
  ∃hp,Vr 102 (.call 228 [.ref 2,.ref 1,dV d]) ⟨E,c,1,0,HR po fin np sc R⟩ (.bool true) ⟨E,c,1,0,hp⟩:=by
 have e:A0 228=[at_ (A0 228) 0,toF,at_ (A0 228) 2]:=by kernel_rfl
 have eF:toF = .For (.Name "turn" (eP (sT toF))) (sE toF) (sA toF) [] (sP toF):=by kernel_rfl
 have eR:at_ (A0 228) 2 = .Return (some J6) vZ:=by kernel_rfl
 have eC:J6 = .Compare toG [.Eq] [e2 J6] (eP J6):=by kernel_rfl
 have eE:toG = .Call (.Attribute (Cj toG) "get_ready" (Es toG)) [] [] (eP toG):=by kernel_rfl
 have g0:Fr 10 (.ex (at_ (A0 228) 0)) (tS [("sorter",.ref 2),("files",.ref 1),("levels",dV d)] (HR po fin np sc R)) .next (tS (T4 d (.ref 15)) (HJ po fin np sc R [.list []])):=.of (by kernel_rfl)
 obtain ⟨gF,⟨t',TX,hle,hr,hn,gz⟩⟩:=Ia (n:=8) (m:=90) (N:=91) (x:="turn") (p:=eP (sT toF)) (q:=sP toF) (I:=sE toF) (body:=sA toF) (fun c:TC=>tS (T4 d c.ov) (HJ c.po c.fin c.np sc c.R c.J)) (Ai:=.rng 5) (kd:=false) (as:=List.range 5) (vV:=fun t=>V.int (t:Nat)) (stp:=V9 sc d)
  (Inv:=fun r c=>∃t,r=List.range' t (5-t)/\t<=5/\HG d t c.R c.out/\Np t c.np/\Lg c.ov c.out c.J) (c0:=⟨np,R,[],po,fin,[.list []],.ref 15⟩) (s0:=tS (T4 d (.ref 15)) (HJ po fin np sc R [.list []])) (w0:=tS (T4 d (.ref 15)) (HJ po fin np sc R [.list []]))
  (.of (by kernel_rfl)) (.refl _) (fun _ _ _=>rfl) (fun c=>.inr (by kernel_rfl)) (fun a r c ha ⟨t,hr,hle,BI,hn,ho⟩=>by
   have h5t:5-t=(5-(t+1))+1:=by
    rcases Nat.eq_zero_or_pos (5-t) with h | h
    .rw [h] at hr;cases hr
    .omega
   rw [h5t,List.range'_succ] at hr
   injection hr with h1 h2
   subst h1
   have st:=iF a c.np c.R c.out c.fin (by omega) BI hn
   exact ⟨⟨.next,.inl rfl,wc hs D5 ho BI st.1⟩,a+1,h2,by omega,⟨st.2.2.1,st.2.2.2,BI.app.1,BI.app.2⟩,st.2.1,.inl rfl⟩)
  ⟨0,by rw [List.range_eq_range'],by omega,⟨hR,hm,List.nodup_nil,fun k=>by simp⟩,h0,.inr ⟨rfl,rfl⟩⟩ (by omega) (by omega) (by omega)
 rw [<-eF] at gF
 generalize (List.range 5).foldl (V9 sc d) ⟨np,R,[],po,fin,[.list []],.ref 15⟩=q at gF hr hn gz
 have iH:t'=5:=by
  rcases Nat.eq_zero_or_pos (5-t') with h | h
  .omega
  .exfalso
   obtain ⟨j,hj⟩:∃j,5-t'=j+1:=⟨5-t'-1,by omega⟩
   rw [hj,List.range'_succ] at TX
   cases TX
 subst iH
 have hq:q.R=[]:=by
  induction iA:q.R using lc with
  |nil=>rfl
  |cons a r=>
   have:=(hr.rm a).mp (by rw [iA];exact .head _)
   exact (h5 a this.1 this.2).elim
 have gG:Vr 51 (.ev toG) (tS (T4 d q.ov) (HJ q.po q.fin q.np sc q.R q.J)) (.tup []) (tS (T4 d q.ov) (HJ (q.po+q.R.length) q.fin (A7 q.np q.R) sc [] q.J)):=by
  have g:=Jd (n:=50) (m:=40) (o:=Cj toG) (nm:="get_ready") (ap:=Es toG) (cp:=eP toG) (args:=[]) (i:=2) (f:=1006) (as:=[]) (s:=tS (T4 d q.ov) (HJ q.po q.fin q.np sc q.R q.J)) (w1:=tS (T4 d q.ov) (HJ q.po q.fin q.np sc q.R q.J))
   (l:=[("_node2info",.ref 3),("_ready_nodes",.ref 14),("_npassedout",.int q.po),("_nfinished",.int q.fin)]) (by kernel_rfl) (by kernel_rfl) rfl (by kernel_rfl) (by kernel_rfl) IV (VA (R:=q.R) (by rw [hq];exact fun i hi=>by cases hi) (by rw [hq];decide) q.J (T4 d q.ov) Jw) (by omega)
  rw [<-eE] at g
  have e0:q.R.map nV=[]:=by rw [hq];rfl
  rw [e0] at g
  exact g
 have gr:Vr 60 (.ev J6) (tS (T4 d q.ov) (HJ q.po q.fin q.np sc q.R q.J)) (.bool true) (tS (T4 d q.ov) (HJ (q.po+q.R.length) q.fin (A7 q.np q.R) sc [] q.J)):=by
  rw [eC]
  exact .cmp (N:=59) (n:=51) (m:=6) (x:=.tup []) (y:=.tup []) (w:=tS (T4 d q.ov) (HJ (q.po+q.R.length) q.fin (A7 q.np q.R) sc [] q.J)) (by kernel_rfl) gG (.of (by kernel_rfl)) rfl (by omega) (by omega)
 have g2:Fr 61 (.ex (at_ (A0 228) 2)) (tS (T4 d q.ov) (HJ q.po q.fin q.np sc q.R q.J)) (.ret (.bool true)) (tS (T4 d q.ov) (HJ (q.po+q.R.length) q.fin (A7 q.np q.R) sc [] q.J)):=by
  rw [eR]
  exact Fr.VD gr
 have gw:Fr 97 (.exs (A0 228)) (tS [("sorter",.ref 2),("files",.ref 1),("levels",dV d)] (HR po fin np sc R)) (.ret (.bool true)) (tS (T4 d q.ov) (HJ (q.po+q.R.length) q.fin (A7 q.np q.R) sc [] q.J)):=by
  rw [e]
  exact .exs (N:=96) g0 (.exs (N:=95) gF (g2.FJ (by simp)) (by omega) (by omega)) (by omega) (by omega)
 have hb:Bh (Aj 228) [.ref 2,.ref 1,dV d]=some ([("sorter",.ref 2),("files",.ref 1),("levels",dV d)]:Loc):=by kernel_rfl
 exact ⟨_,(Ht (f:=228) (s:=⟨E,c,1,0,HR po fin np sc R⟩) (by kernel_rfl) hb (by kernel_rfl) gw (ao _) rfl).up (by omega) (.refl _)⟩
end
section
open PySem
variable {sc:Nat->List Nat} {d g:Nat->Nat} {n m N f j k y t o:Nat} {s w w1 w2 w3:S} {v x sv ov:V} {b:Bool} {as:List V} {l:Loc} {rs:List (Nat × List Nat)} {r M1 M2 A1 A2:List Nat} {np:Nat->Int} {a c:Expr} {p q:Pos}
noncomputable def Bl (f:Nat->Nat):Nat:=f 0+f 1+f 2+f 3+f 4
theorem Qj {f:Nat->Nat}:Bl f=0<->∀y,y<5->f y=0:=by
 unfold Bl
 constructor
 .intro h y hy
  refine five y hy ?_ ?_ ?_ ?_ ?_ <;> lia
 .intro h
  rw [h 0 (by lia),h 1 (by lia),h 2 (by lia),h 3 (by lia),h 4 (by lia)]
theorem J4 {f:Nat->Nat} (h:∀y,y<5->f y=g y):Bl f=Bl g:=by
 unfold Bl
 rw [h 0 (by lia),h 1 (by lia),h 2 (by lia),h 3 (by lia),h 4 (by lia)]
theorem NB {f:Nat->Nat}:Bl (fun y=>f y+g y)=Bl f+Bl g:=by
 show f 0+g 0+(f 1+g 1)+(f 2+g 2)+(f 3+g 3)+(f 4+g 4)=f 0+f 1+f 2+f 3+f 4+(g 0+g 1+g 2+g 3+g 4)
 lia
theorem WH (hj:j<5) (c:Nat):Bl (fun y=>if j=y then c else 0)=c:=by
 match j,hj with
 |0,_=>rfl
 |1,_=>show 0+c+0+0+0=c;lia
 |2,_=>show 0+0+c+0+0=c;lia
 |3,_=>show 0+0+0+c+0=c;lia
 |4,_=>show 0+0+0+0+c=c;lia
theorem ux (f:Nat->Nat):∀(R:List Nat),R.Nodup->(∀i∈R,i<5)->(R.map f).sum=Bl fun y=>if y∈R then f y else 0:=by
 intro R_
 induction R_ with
 |nil=>
  intro _ _
  unfold Bl;simp
 |cons i r AU=>
  intro hn hl
  have ih:=AU (List.nodup_cons.mp hn).2 fun k hk=>hl k (.tail _ hk)
  have hi:=(List.nodup_cons.mp hn).1
  rw [bq,List.sum_cons,ih,<-WH (hl i (.head _)) (f i),<-NB]
  refine J4 fun y _=>?_
  by_cases h:i=y
  .subst h
   simp [hi]
  .have h':¬ y=i:=fun q=>h q.symm
   simp [h,h']
theorem ZK (sc:Nat->List Nat) (j:Nat):∀R:List Nat,(R.flatMap sc).count j=(R.map fun y=>(sc y).count j).sum:=by
 intro R_
 induction R_ with
 |nil=>
  exact rfl
 |cons i r AU=>
  rw [List.flatMap_cons,List.count_append,AU,bq,List.sum_cons]
theorem uw:∀(T:List Nat),(∀j∈T,j<5)->Bl (fun y=>T.count y)=T.length:=by
 intro T_
 induction T_ with
 |nil=>
  intro _
  exact rfl
 |cons j T AU=>
  intro h
  have ih:=AU fun k hk=>h k (.tail _ hk)
  rw [List.length_cons,<-ih,<-WH (h j (.head _)) 1,<-NB]
  refine J4 fun y _=>?_
  rw [List.count_cons]
  by_cases q:j=y <;> simp [q]
theorem Ni (i:Nat):∀(T:List Nat) (sc:Nat->List Nat) (k:Nat),Cg i sc T k=sc k++List.replicate (T.count k) i:=by
 intro T_
 induction T_ with
 |nil=>
  intro sc k
  simp [Cg]
 |cons j T AU=>
  intro sc k
  have h:=AU (upd sc j (sc j++[i])) k
  show Cg i (upd sc j (sc j++[i])) T k=_
  rw [h]
  by_cases hk:k=j
  .subst hk
   rw [NP,List.count_cons_self,List.replicate_succ,List.append_assoc];rfl
  .rw [JB _ _ hk,List.count_cons_of_ne (fun q=>hk q.symm)]
theorem vH (r:List Nat):(CL r).Nodup:=List.Pairwise.filter _ List.nodup_range
theorem vG:k∈CL r<->k<5/\D4 r k=true:=by unfold CL;simp
theorem YQ:∀(rs:List (Nat × List Nat)) (c:(Nat->Int) × (Nat->List Nat) × Nat),(∀k,c.1 k=(Bl fun y=>(c.2.1 y).count k:Nat))->∀k,(rs.foldl Fo c).1 k=(Bl fun y=>((rs.foldl Fo c).2.1 y).count k:Nat):=by
 intro LF
 induction LF with
 |nil=>
  intro c h
  exact h
 |cons q rs AU=>
  intro c h
  refine AU (Fo c q) fun k=>?_
  show upd c.1 q.1 (c.1 q.1+(CL q.2).length) k=((Bl fun y=>(Cg q.1 c.2.1 (CL q.2) y).count k:Nat):Int)
  have e:(Bl fun y=>(Cg q.1 c.2.1 (CL q.2) y).count k)=Bl (fun y=>(c.2.1 y).count k)+Bl (fun y=>if q.1=k then (CL q.2).count y else 0):=by
   rw [<-NB]
   refine J4 fun y _=>?_
   rw [Ni,List.count_append,List.count_replicate]
   by_cases hq:q.1=k <;> simp [hq]
  rw [e]
  by_cases hq:q.1=k
  .subst hq
   rw [NP,h]
   simp only [if_true]
   rw [uw _ WM]
   lia
  .rw [JB _ _ (fun w=>hq w.symm),h]
   simp only [aj hq]
   show _=((_+0:Nat):Int)
   rfl
theorem Rh:∀(rs:List (Nat × List Nat)) (c:(Nat->Int) × (Nat->List Nat) × Nat) (k y:Nat),k∈(rs.foldl Fo c).2.1 y<->k∈c.2.1 y\/∃r∈rs,r.1=k/\y∈CL r.2:=by
 intro LF
 induction LF with
 |nil=>
  intro c k y
  simp
 |cons q rs AU=>
  intro c k y
  rw [List.foldl_cons,AU (Fo c q) k y]
  have e:k∈(Fo c q).2.1 y<->k∈c.2.1 y\/(q.1=k/\y∈CL q.2):=by
   show k∈Cg q.1 c.2.1 (CL q.2) y<->_
   rw [Ni,List.mem_append,List.mem_replicate]
   refine or_congr Iff.rfl ?_
   rw [<-List.count_pos_iff]
   constructor
   .rintro ⟨h1,h2⟩;exact ⟨h2.symm,by lia⟩
   .rintro ⟨h1,h2⟩;exact ⟨by lia,h1.symm⟩
  rw [e]
  constructor
  .rintro ((h | h) | ⟨r,hr,h⟩)
   .exact .inl h
   .exact .inr ⟨q,.head _,h⟩
   .exact .inr ⟨r,.tail _ hr,h⟩
  .rintro (h | ⟨r,hr,h⟩)
   .exact .inl (.inl h)
   .cases hr with
    |head=>exact .inl (.inr h)
    |tail _ hr=>exact .inr ⟨r,hr,h⟩
theorem YO:∀(rs:List (Nat × List Nat)) (c:(Nat->Int) × (Nat->List Nat) × Nat) (y:Nat),((rs.foldl Fo c).2.1 y).length<=(c.2.1 y).length+rs.length:=by
 intro LF
 induction LF with
 |nil=>
  intro c y
  exact ao _
 |cons q rs AU=>
  intro c y
  have h:=AU (Fo c q) y
  have e:((Fo c q).2.1 y).length<=(c.2.1 y).length+1:=by
   show (Cg q.1 c.2.1 (CL q.2) y).length<=_
   rw [Ni,List.length_append,List.length_replicate]
   have:=List.nodup_iff_count.mp (vH q.2) y
   lia
  rw [List.foldl_cons,List.length_cons]
  lia
theorem VQ:k∈(Ag rs).2.1 y<->y∈Cf rs k:=by
 unfold Ag
 rw [Rh]
 unfold Cf NF
 simp only [List.mem_filter,List.mem_range,List.any_eq_true,Bool.and_eq_true,beq_iff_eq,vG]
 constructor
 .rintro (h | ⟨r,hr,h1,h2,h3⟩)
  .cases h
  .exact ⟨h2,r,hr,h1,h3⟩
 .rintro ⟨h2,r,hr,h1,h3⟩
  exact .inr ⟨r,hr,h1,h2,h3⟩
theorem QN (hg:∀r∈rs,r.1<5/\r.2∈rows):∀i x,x∈(Ag rs).2.1 i->x<5:=fun i x h=>by
 unfold Ag at h
 rw [Rh] at h
 rcases h with h | ⟨r,hr,h1,_⟩
 .cases h
 .rw [<-h1];exact (hg r hr).1
theorem qd (rs:List (Nat × List Nat)) (i:Nat):((Ag rs).2.1 i).length<=rs.length:=by
 have:=YO rs (fun _=>0,fun _=>[],0) i
 unfold Ag
 simpa using this
theorem nk (rs:List (Nat × List Nat)) (k:Nat):(Ag rs).1 k=(Bl fun y=>((Ag rs).2.1 y).count k:Nat):=YQ rs (fun _=>0,fun _=>[],0) (fun k=>by unfold Bl;simp) k
theorem mV (h:∀i,(sc i).length<=n):Cn sc []<=5*n:=by
 have e:Cn sc []=(sc 0).length+((sc 1).length+((sc 2).length+((sc 3).length+((sc 4).length+0)))):=rfl
 have h0:=h 0
 have h1:=h 1
 have h2:=h 2
 have h3:=h 3
 have h4:=h 4
 lia
theorem Sq:∀(l:List Nat) (a n:Nat),l.foldl max a<=n<->a<=n/\∀x∈l,x<=n:=by
 intro l_
 induction l_ with
 |nil=>
  intro a n
  simp
 |cons x l AU=>
  intro a n
  rw [List.foldl_cons,AU (max a x) n]
  simp only [List.mem_cons,forall_eq_or_imp,Nat.max_le,and_assoc]
theorem Ph:BV rs (t+1) o<=n<->∀k∈Cf rs o,1+BV rs t k<=n:=by
 show ((Cf rs o).map fun k=>1+BV rs t k).foldl max 0<=n<->_
 rw [Sq]
 simp
theorem jf {a b:Nat} (h:∀n,a<=n<->b<=n):a=b:=Nat.le_antisymm ((h b).mpr (ao b)) ((h a).mp (ao a))
theorem Pj {rs:List (Nat × List Nat)}:∀(t o:Nat),BV rs t o=min t (BV rs (t+1) o)
 |0,o=>by rw [Nat.zero_min];rfl
 |t+1,o=>by
  have ih:=Pj (rs:=rs) t
  refine jf fun n=>?_
  rw [Ph]
  have e:min (t+1) (BV rs (t+1+1) o)<=n<->t+1<=n\/BV rs (t+1+1) o<=n:=by lia
  rw [e,Ph]
  constructor
  .intro h
   by_cases ht:t+1<=n
   .exact .inl ht
   .refine .inr fun k hk=>?_
    have h1:=h k hk
    have h2:=ih k
    lia
  .rintro (h | h) k hk
   .have h2:=ih k
    lia
   .have h1:=h k hk
    have h2:=ih k
    lia
theorem ZT:BV rs 6 o<=n<->∀k∈Cf rs o,1+min 5 (BV rs 6 k)<=n:=by
 rw [Ph]
 constructor
 .intro h k hk
  rw [<-Pj]
  exact h k hk
 .intro h k hk
  rw [Pj]
  exact h k hk
structure Wt (sc:Nat->List Nat) (d:Nat->Nat):Prop where
 lt:∀i x,x∈sc i->x<5
 dl:∀o n,d o<=n<->∀y,y<5->o∈sc y->1+min 5 (d y)<=n
theorem Wt.up (W:Wt sc d) (hy:y<5) (h:o∈sc y):1+min 5 (d y)<=d o:=(W.dl o (d o)).mp (ao _) y hy h
theorem Wt.down (W:Wt sc d) (h:1<=d o):∃y,y<5/\o∈sc y/\d o=1+min 5 (d y):=by
 apply Classical.byContradiction
 intro hn
 have:d o<=d o-1:=(W.dl o (d o-1)).mpr fun y hy hm=>by
  have u:=W.up hy hm
  by_cases e:d o=1+min 5 (d y)
  .exact (hn ⟨y,hy,hm,e⟩).elim
  .lia
 lia
theorem Wt.jd (W:Wt sc d) (o:Nat):d o<=6:=(W.dl o 6).mpr fun y _ _=>by lia
theorem Wt.chain (W:Wt sc d):∀t,t<=5->∀k,k<5->d k=t->∃l:List Nat,l.Nodup/\(∀x∈l,x<5/\d x<=t)/\l.length=t+1
 |0,_,k,hk,e=>⟨[k],by simp,fun x hx=>by rw [List.mem_singleton.mp hx];exact ⟨hk,by lia⟩,rfl⟩
 |t+1,ht,k,hk,e=>by
  obtain ⟨y,hy,_,he⟩:=W.down (o:=k) (by lia)
  obtain ⟨l,h1,h2,h3⟩:=W.chain t (by lia) y hy (by lia)
  refine ⟨k::l,List.nodup_cons.mpr ⟨fun h=>by have:=(h2 k h).2;lia,h1⟩,fun x hx=>?_,by rw [List.length_cons,h3]⟩
  cases hx with
  |head=>exact ⟨hk,by lia⟩
  |tail _ hx=>exact ⟨(h2 x hx).1,by have:=(h2 x hx).2;lia⟩
theorem Wt.P0 (W:Wt sc d):∀k,k<5->d k≠5:=fun k hk e=>by
 obtain ⟨l,h1,h2,h3⟩:=W.chain 5 (by lia) k hk e
 have:=Jh h1 fun x hx=>(h2 x hx).1
 lia
theorem Wt.ring (W:Wt sc d) (h:Ring sc):∃x,x<5/\d x=6:=by
 obtain ⟨S,CJ,hl,hr⟩:=h
 have key:∀n,n<=6->∀x∈S,n<=d x:=by
  intro n
  induction n with
  |zero=>intro _ x _;lia
  |succ n ih=>
   intro hn x hx
   obtain ⟨y,hy,hm⟩:=hr x hx
   have h1:=ih (by lia) y hy
   have h2:=W.up (hl y hy) hm
   lia
 induction S using lc with
 |nil=>exact (CJ rfl).elim
 |cons a r=>exact ⟨a,hl a (.head _),by have:=key 6 (by lia) a (.head _);have:=W.jd a;lia⟩
theorem v5 {l:List Nat} (h:F1 sc l):∀y∈l,∀j∈sc y,j∈l:=by
 induction h with
 |nil=>intro y hy;cases hy
 |cons h hn t ih=>
  intro y hy j hj
  cases hy with
  |head=>exact .tail _ (h j hj)
  |tail _ hy=>exact .tail _ (ih y hy j hj)
theorem Wt.vq (W:Wt sc d) {l:List Nat} (h:F1 sc l) (hl:∀y,y<5->y∈l):∀k,k<5->d k<=4:=by
 have key:(∀x,x<5->6<=d x->x∈l)->∀x,x<5->¬ 6<=d x:=by
  clear hl
  induction h with
  |nil=>intro h x hx h6;cases h x hx h6
  | @cons i l' h hn t ih=>
   intro hm
   refine ih fun x hx h6=>?_
   cases hm x hx h6 with
   |tail _ q=>exact q
   |head=>
    exfalso
    obtain ⟨y,hy,TN,he⟩:=W.down (o:=i) (by lia)
    have h5:=W.P0 y hy
    cases hm y hy (by lia) with
    |head=>exact hn (h _ TN)
    |tail _ q=>exact hn (v5 t y q _ TN)
 intro k hk
 have h1:=key (fun x hx _=>hl x hx) k hk
 have h2:=W.P0 k hk
 lia
theorem comb (H:∀j,j∈M1++M2->((M1++M2).count j:Int)<=np j) (n1:A1.Nodup) (n2:A2.Nodup) (h1:∀j,j∈A1<->j∈M1/\np j=M1.count j) (h2:∀j,j∈A2<->j∈M2/\np j-M1.count j=M2.count j) :
  (A1++A2).Nodup/\∀j,j∈A1++A2<->j∈M1++M2/\np j=(M1++M2).count j:=by
 constructor
 .refine List.nodup_append.mpr ⟨n1,n2,fun a ha b hb e=>?_⟩
  subst e
  have a1:=(h1 a).mp ha
  have a2:=(h2 a).mp hb
  have c2:=List.count_pos_iff.mpr a2.1
  lia
 .intro j
  rw [List.mem_append,List.mem_append,List.count_append]
  constructor
  .rintro (h | h)
   .have a1:=(h1 j).mp h
    have hh:=H j (List.mem_append.mpr (.inl a1.1))
    rw [List.count_append] at hh
    exact ⟨.inl a1.1,by lia⟩
   .have a2:=(h2 j).mp h
    exact ⟨.inr a2.1,by lia⟩
  .rintro ⟨h,e⟩
   by_cases hm:j∈M2
   .exact .inr ((h2 j).mpr ⟨hm,by lia⟩)
   .have hz:=List.count_eq_zero.mpr hm
    rcases h with h | h
    .exact .inl ((h1 j).mpr ⟨h,by lia⟩)
    .exact (hm h).elim
theorem ZS:∀(M:List Nat) (np:Nat->Int) (rd:List Nat),(∀j,j∈M->(M.count j:Int)<=np j)->
  (∀j,(M.foldl decr (np,rd)).1 j=np j-M.count j)/\∃A,(M.foldl decr (np,rd)).2=rd++A/\A.Nodup/\∀j,j∈A<->j∈M/\np j=M.count j:=by
 intro M_
 induction M_ with
 |nil=>
  intro np rd h
  exact ⟨fun j=>by simp,[],by simp,List.nodup_nil,fun j=>by simp⟩
 |cons i M AU=>
  intro np rd h
  have h:∀j,j∈[i]++M->(([i]++M).count j:Int)<=np j:=h
  have hn:∀j,upd np i (np i-1) j=np j-([i].count j:Nat):=fun j=>by
   by_cases hj:j=i
   .subst hj;rw [NP];simp
   .rw [JB _ _ hj,List.count_eq_zero.mpr (by simpa using hj)];simp
  have e:decr (np,rd) i=(upd np i (np i-1),rd++(if np i=1 then [i] else [])):=by
   unfold decr
   dsimp only
   by_cases h1:np i=1
   .simp [h1]
   .have:(np i-1==0)=false:=beq_false_of_ne (by lia)
    rw [this,aj h1];simp
  obtain ⟨i1,A2,i2,i3,i4⟩:=AU (upd np i (np i-1)) (rd++(if np i=1 then [i] else [])) fun j hj=>by
   have:=h j (List.mem_append.mpr (.inr hj))
   rw [List.count_append] at this
   rw [hn];lia
  have c:=comb (np:=np) (M1:=[i]) (M2:=M) (A1:=if np i=1 then [i] else []) (A2:=A2) h (by split <;> simp) i3 (fun j=>by
   by_cases h1:np i=1
   .rw [ak h1]
    constructor
    .intro hj
     rw [List.mem_singleton.mp hj]
     exact ⟨.head _,by rw [h1];simp⟩
    .exact fun hj=>hj.1
   .rw [aj h1]
    constructor
    .intro hj;cases hj
    .rintro ⟨hj,e⟩
     rw [List.mem_singleton.mp hj] at e
     exact (h1 (by rw [e];simp)).elim) (fun j=>by rw [i4,hn])
  rw [List.foldl_cons,e]
  refine ⟨fun j=>?_,_,by rw [i2,List.append_assoc],c.1,c.2⟩
  rw [i1,hn,show i::M=[i]++M from rfl,List.count_append]
  lia
theorem Zo:∀(R:List Nat) (np:Nat->Int) (rd:List Nat) (fin:Int),R.Nodup->(∀i∈R,np i = -1)->(∀i∈R,∀j∈sc i,j∉R)->(∀j,j∈R.flatMap sc->((R.flatMap sc).count j:Int)<=np j)->
  Ge sc R (np,rd,fin)/\(∀j,j∉R->(BA sc (np,rd,fin) R).1 j=np j-(R.flatMap sc).count j)/\∃A,(BA sc (np,rd,fin) R).2.1=rd++A/\A.Nodup/\∀j,j∈A<->j∈R.flatMap sc/\np j=(R.flatMap sc).count j:=by
 intro R_
 induction R_ with
 |nil=>
  intro np rd fin _ _ _ _
  exact ⟨trivial,fun j _=>by simp [BA],[],by simp [BA],List.nodup_nil,fun j=>by simp⟩
 |cons i r AU=>
  intro np rd fin hd h1 h2 h3
  rw [List.flatMap_cons] at h3 ⊢
  have fh:=(List.nodup_cons.mp hd).1
  have CJ:∀j,j∈sc i->j≠i:=fun j hj e=>h2 i (.head _) j hj (by rw [e];exact .head _)
  obtain ⟨d1,A1,d2,d3,d4⟩:=ZS (sc i) (upd np i (-2)) rd fun j hj=>by
   rw [JB _ _ (CJ j hj)]
   have:=h3 j (List.mem_append.mpr (.inl hj))
   rw [List.count_append] at this
   lia
  have hM:∀j,j∈r.flatMap sc->j∉i::r:=fun j hj=>by
   obtain ⟨k,hk,MI⟩:=List.mem_flatMap.mp hj
   exact h2 k (.tail _ hk) j MI
  have hq:∀j,j≠i->(CY sc (np,rd,fin) i).1 j=np j-(sc i).count j:=fun j hj=>by
   show ((sc i).foldl decr (upd np i (-2),rd)).1 j=_
   rw [d1,JB _ _ hj]
  obtain ⟨e1,e2,A2,e3,e4,e5⟩:=AU (CY sc (np,rd,fin) i).1 (CY sc (np,rd,fin) i).2.1 (CY sc (np,rd,fin) i).2.2 (List.nodup_cons.mp hd).2
   (fun k hk=>by
    have gH:k≠i:=fun e=>fh (by rw [<-e];exact hk)
    have gP:k∉sc i:=fun h=>h2 i (.head _) k h (.tail _ hk)
    rw [hq k gH,h1 k (.tail _ hk),List.count_eq_zero.mpr gP];rfl)
   (fun k hk j hj h=>h2 k (.tail _ hk) j hj (.tail _ h))
   (fun j hj=>by
    have fu:j≠i:=fun e=>hM j hj (by rw [e];exact .head _)
    have:=h3 j (List.mem_append.mpr (.inr hj))
    rw [List.count_append] at this
    rw [hq j fu];lia)
  have c:=comb (np:=np) (M1:=sc i) (M2:=r.flatMap sc) (A1:=A1) (A2:=A2) h3 d3 e4 (fun j=>by
   rw [d4]
   refine and_congr_right fun hj=>?_
   rw [JB _ _ (CJ j hj)]) (fun j=>by
   rw [e5]
   refine and_congr_right fun hj=>?_
   rw [hq j fun e=>hM j hj (by rw [e];exact .head _)])
  refine ⟨⟨h1 i (.head _),e1⟩,fun j hj=>?_,A1++A2,?_,c.1,c.2⟩
  .show (BA sc (CY sc (np,rd,fin) i) r).1 j=_
   have fj:j≠i:=fun e=>hj (by rw [e];exact .head _)
   have fq:j∉r:=fun h=>hj (.tail _ h)
   rw [show CY sc (np,rd,fin) i=((CY sc (np,rd,fin) i).1,(CY sc (np,rd,fin) i).2.1,(CY sc (np,rd,fin) i).2.2) from rfl,e2 j fq,hq j fj,List.count_append]
   lia
  .show (BA sc (CY sc (np,rd,fin) i) r).2.1=_
   rw [show CY sc (np,rd,fin) i=((CY sc (np,rd,fin) i).1,(CY sc (np,rd,fin) i).2.1,(CY sc (np,rd,fin) i).2.2) from rfl,e3]
   show ((sc i).foldl decr (upd np i (-2),rd)).2++A2=_
   rw [d2,List.append_assoc]
theorem Us:∀(R:List Nat) (np:Nat->Int) (k:Nat),A7 np R k=if k∈R then -1 else np k:=by
 intro R_
 induction R_ with
 |nil=>
  intro np k
  simp [A7]
 |cons i r AU=>
  intro np k
  show A7 (upd np i (-1)) r k=_
  rw [AU]
  by_cases h:k∈r
  .rw [ak h,ak (.tail _ h)]
  .rw [aj h]
   by_cases e:k=i
   .subst e
    rw [NP,ak (.head _)]
   .rw [JB _ _ e,aj (by simp [h,e])]
def Np (sc:Nat->List Nat) (d:Nat->Nat) (t:Nat) (np:Nat->Int):Prop:=∀k,k<5->t<d k->np k=(Bl fun y=>if t<=d y then (sc y).count k else 0:Nat)
theorem uS (t k:Nat):(Bl fun y=>if t<=d y then (sc y).count k else 0)=(Bl fun y=>if d y=t then (sc y).count k else 0)+Bl fun y=>if t+1<=d y then (sc y).count k else 0:=by
 rw [<-NB]
 refine J4 fun y _=>?_
 by_cases h1:d y=t
 .rw [ak (by lia),ak h1,aj (by lia)];rfl
 .by_cases h2:t<=d y
  .rw [ak h2,aj h1,ak (by lia),Nat.zero_add]
  .rw [aj h2,aj h1,aj (by lia)]
theorem Wt.step (W:Wt sc d):∀t np R O' fin,t<5->HG d t R O'->Np sc d t np->Ge sc R (A7 np R,[],fin)/\Np sc d (t+1) (BA sc (A7 np R,[],fin) R).1/\(BA sc (A7 np R,[],fin) R).2.1.Nodup/\∀k,k∈(BA sc (A7 np R,[],fin) R).2.1<->k<5/\d k=t+1:=by
 intro t np R O' fin ht r hn
 have hR:∀i∈R,i<5:=fun i hi=>((r.rm i).mp hi).1
 have TL:∀i∈R,∀j∈sc i,t<d j:=fun i hi j hj=>by
  have h1:=W.up (hR i hi) hj
  have h2:=((r.rm i).mp hi).2
  lia
 have O6:∀j,t<d j->j∉R:=fun j hj h=>by
  have:=((r.rm j).mp h).2
  lia
 have fK:∀j,(R.flatMap sc).count j=Bl fun y=>if d y=t then (sc y).count j else 0:=fun j=>by
  rw [ZK,ux _ R r.rn hR]
  refine J4 fun y hy=>?_
  by_cases h:d y=t
  .rw [ak h,ak ((r.rm y).mpr ⟨hy,h⟩)]
  .rw [aj h,aj fun q=>h ((r.rm y).mp q).2]
 have hM:∀j,j∈R.flatMap sc->j<5/\t<d j:=fun j hj=>by
  obtain ⟨k,hk,MI⟩:=List.mem_flatMap.mp hj
  exact ⟨W.lt k j MI,TL k hk j MI⟩
 have Hi:∀j,j<5->t<d j->A7 np R j=((R.flatMap sc).count j:Int)+((Bl fun y=>if t+1<=d y then (sc y).count j else 0:Nat):Int):=fun j h5 hj=>by
  rw [Us,aj (O6 j hj),hn j h5 hj,uS,fK]
  lia
 obtain ⟨d1,d2,A,d3,d4,d5⟩:=Zo (sc:=sc) R (A7 np R) [] fin r.rn (fun i hi=>by rw [Us,ak hi]) (fun i hi j hj=>O6 j (TL i hi j hj)) (fun j hj=>by
  rw [Hi j (hM j hj).1 (hM j hj).2]
  lia)
 have d3:(BA sc (A7 np R,[],fin) R).2.1=A:=d3
 refine ⟨d1,fun k hk hd=>?_,by rw [d3];exact d4,fun k=>?_⟩
 .rw [d2 k (O6 k (by lia)),Hi k hk (by lia)]
  lia
 .rw [d3,d5]
  constructor
  .rintro ⟨hm,he⟩
   obtain ⟨h5,fW⟩:=hM k hm
   rw [Hi k h5 fW] at he
   have hz:=Qj.mp (show (Bl fun y=>if t+1<=d y then (sc y).count k else 0)=0 by lia)
   obtain ⟨y,hy,O0,fO⟩:=W.down (o:=k) (by lia)
   refine ⟨h5,?_⟩
   by_cases iI:t+1<=d y
   .have:=hz y hy
    rw [ak iI] at this
    exact (List.count_eq_zero.mp this O0).elim
   .lia
  .rintro ⟨h5,hd⟩
   obtain ⟨y,hy,O0,fO⟩:=W.down (o:=k) (by lia)
   refine ⟨List.mem_flatMap.mpr ⟨y,(r.rm y).mpr ⟨hy,by lia⟩,O0⟩,?_⟩
   rw [Hi k h5 (by lia)]
   have:(Bl fun y=>if t+1<=d y then (sc y).count k else 0)=0:=Qj.mpr fun z hz=>by
    by_cases h:t+1<=d z
    .rw [ak h]
     refine List.count_eq_zero.mpr fun q=>?_
     have:=W.up hz q
     lia
    .rw [aj h]
   lia
theorem Wt.start (W:Wt sc d) (h:∀k,np k=(Bl fun y=>(sc y).count k:Nat)):Np sc d 0 np/\(A5 np).Nodup/\∀k,k∈A5 np<->k<5/\d k=0:=by
 refine ⟨fun k _ _=>?_,List.Pairwise.filter _ List.nodup_range,fun k=>?_⟩
 .rw [h]
  have:(Bl fun y=>if 0<=d y then (sc y).count k else 0)=Bl fun y=>(sc y).count k:=J4 fun y _=>ak (Nat.zero_le _)
  rw [this]
 .unfold A5
  simp only [List.mem_filter,List.mem_range,beq_iff_eq]
  refine and_congr_right fun hk=>?_
  rw [h]
  have e:((Bl fun y=>(sc y).count k:Nat):Int)=0<->(Bl fun y=>(sc y).count k)=0:=by lia
  rw [e,Qj]
  have dz:=W.dl k 0
  constructor
  .intro hz
   have:=dz.mpr fun y hy hm=>(List.count_eq_zero.mp (hz y hy) hm).elim
   lia
  .intro hd y hy
   refine List.count_eq_zero.mpr fun q=>?_
   have:=dz.mp (by lia) y hy q
   lia
theorem xE (hg:∀r∈rs,r.1<5/\r.2∈rows):Wt (Ag rs).2.1 (BV rs 6) where
 lt:=QN hg
 dl:=fun o n=>by
  rw [ZT]
  constructor
  .exact fun h y _ hm=>h y (VQ.mp hm)
  .exact fun h k hk=>h k (List.mem_range.mp (List.mem_filter.mp hk).1) (VQ.mpr hk)
theorem Vr.Xp (g1:Vr n (.ev a) s (.bool true) w1) (g2:Vr m (.ev c) w1 v w) (h1:n<=N) (h2:m<=N):Vr (N+1) (.ev (.BoolOp .And [a,c] p)) s v w:=by
 obtain ⟨r1,e1,z1⟩:=g1.up h1 (.refl s)
 obtain ⟨r2,e2,z2⟩:=g2.up h2 z1
 refine ⟨r2,?_,z2⟩
 rw [Av,SN]
 show AD (Ih.v (run N) (.ev a)) _ s=_
 rw [AJ e1]
 exact e2
def la (i:Nat):Stmt:=at_ (A0 235) i
def Jx:Sc:=(Aj 235).sc
abbrev wS (E:Loc) (hp:List O):S:=⟨E,Jx,1,0,hp⟩
def K8:Expr:=match la 4 with | .Return (some e) _=>e | _=>default
def jP:Pos:=match la 4 with | .Return _ p=>p | _=>default
def JY:Expr:=match K8 with | .BoolOp _ (a::_) _=>a | _=>default
def Gx:Expr:=match K8 with | .BoolOp _ (_::b::_) _=>b | _=>default
def Hq:Expr:=e1 JY
def JZ:Expr:=e2 JY
def Ja:Expr:=e1 JZ
noncomputable def arg (i:Nat):Expr->Expr
 | .Call _ as _ _=>as.getD i default
 |_=>default
def X0:Expr:=sE (la 0)
def X2:Expr:=sE (la 2)
def X3:Expr:=sE (la 3)
def qu:Expr:=match arg 0 X0 with | .Subscript _ (.Slice _ (some u) _ _) _=>u | _=>default
def qp:Expr:=match arg 0 X0 with | .Subscript o _ _=>o | _=>default
def qt:Pos:=match arg 0 X0 with | .Subscript _ (.Slice _ _ _ q) _=>q | _=>default
theorem Vr.qz {o up:Expr} {k:Int} (h1:Ih.v (run n) (.ev o) s=some (.ok ov s)) (h2:Ih.v (run n) (.ev up) s=some (.ok (.int k) s)) (h3:Ej ov none (some k) s=some (.ok v s)):Vr (n+1) (.ev (.Subscript o (.Slice none (some up) none q) p)) s v s:=by
 refine .of ?_
 have e:Ih.v (run (n+1)) (.ev (.Subscript o (.Slice none (some up) none q) p))=AD (Ih.v (run n) (.ev o)) fun ov=>AD (D8 (run n) none) fun l=>AD (D8 (run n) (some up)) fun u=>Ej ov l u:=by
  rw [Av,Lw]
  rfl
 have e2:D8 (run n) (some up) s=some (.ok (some k) s):=by
  show AD (Ih.v (run n) (.ev up)) _ s=_
  rw [AJ h2];rfl
 rw [e,AJ h1]
 show AD (D8 (run n) (some up)) _ s=_
 rw [AJ e2]
 exact h3
theorem take3 (ns:List Int) (w:S):Ej (.lst (ns.map .int)) none (some 3) w=some (.ok (.lst ((ns.take 3).map .int)) w):=by
 show Bb (cut (ns.map V.int) 0 (min 3 (ns.map V.int).length)) w=_
 have e:cut (ns.map V.int) 0 (min 3 (ns.map V.int).length)=(ns.take 3).map V.int:=by
  unfold cut
  rw [List.drop_zero,Nat.sub_zero,List.map_take,<-List.take_eq_take_min]
 rw [e]
 unfold Bb
 rw [ak (by simp;lia)];rfl
theorem jK (ns:List Int):Fr 46 (.ex (la 0)) (wS [("script",.lst (ns.map .int))] [.tab]) .next (wS [("script",.lst (ns.map .int)),("drawn",R0 (Hy (ns.take 3)))] [.tab]):=by
 have e:la 0 = .Assign [.Name "drawn" (eP (sT (la 0)))] X0 (sP (la 0)):=by kernel_rfl
 have eE:X0 = .Call (e1 X0) [arg 0 X0] [] (eP X0):=by kernel_rfl
 have eA:arg 0 X0 = .Subscript qp (.Slice none (some qu) none qt) (eP (arg 0 X0)):=by kernel_rfl
 have gs:Vr 11 (.ev (arg 0 X0)) (wS [("script",.lst (ns.map .int))] [.tab]) (.lst ((ns.take 3).map .int)) (wS [("script",.lst (ns.map .int))] [.tab]):=by
  rw [eA]
  exact .qz (n:=10) (by kernel_rfl) (by kernel_rfl) (take3 ns _)
 have g:Vr 45 (.ev X0) (wS [("script",.lst (ns.map .int))] [.tab]) (R0 (Hy (ns.take 3))) (wS [("script",.lst (ns.map .int))] [.tab]):=by
  have hr:=qP (ns.take 3) (by simp;lia) [("script",.lst (ns.map .int))] Jx
  rw [rules_eq] at hr
  obtain ⟨r,er,z⟩:=gs.up (by lia:11<=44) (.refl _)
  exact Gl (n:=44) (m:=41) (E:=X0) (a:=196) eE (by kernel_rfl) (by kernel_rfl) (fun l=>rfl) (JK (by kernel_rfl) ⟨r,er,z⟩) hr (by lia)
 have g1:=F3 (x:="drawn") (p:=eP (sT (la 0))) (q:=sP (la 0)) (by kernel_rfl) (.inl (by kernel_rfl)) g
 rw [<-e] at g1
 exact g1
noncomputable abbrev W2 (sv:V) (rs:List (Nat × List Nat)):Loc:=[("script",sv),("drawn",R0 rs),("known",.ref 1)]
abbrev W3 (sv:V) (rs:List (Nat × List Nat)):Loc:=[("script",sv),("drawn",R0 rs),("known",.ref 1),("deep",dV (BV rs 6))]
abbrev W4 (sv:V) (rs:List (Nat × List Nat)):Loc:=[("script",sv),("drawn",R0 rs),("known",.ref 1),("deep",dV (BV rs 6)),("made",.ref 2)]
theorem jL:Fr 10 (.ex (la 1)) (wS [("script",sv),("drawn",R0 rs)] [.tab]) .next (wS (W2 sv rs) hp2):=.of (by kernel_rfl)
theorem jM (hg:∀r∈rs,r.1<5/\r.2∈rows) (hl:rs.length<=6):Fr 46 (.ex (la 2)) (wS (W2 sv rs) hp2) .next (wS (W3 sv rs) hp2):=by
 have e:la 2 = .Assign [.Name "deep" (eP (sT (la 2)))] X2 (sP (la 2)):=by kernel_rfl
 have eE:X2 = .Call (e1 X2) [arg 0 X2,arg 1 X2] [] (eP X2):=by kernel_rfl
 have g:Vr 45 (.ev X2) (wS (W2 sv rs) hp2) (dV (BV rs 6)) (wS (W2 sv rs) hp2):=by
  have ga:Vr 44 (.ev (arg 0 X2)) (wS (W2 sv rs) hp2) (.ref 1) (wS (W2 sv rs) hp2):=.of (by kernel_rfl)
  have gb:Vr 44 (.ev (arg 1 X2)) (wS (W2 sv rs) hp2) (R0 rs) (wS (W2 sv rs) hp2):=.of (by kernel_rfl)
  exact Gl (n:=44) (m:=41) (E:=X2) (a:=211) eE (by kernel_rfl) (by kernel_rfl) (fun l=>rfl) (Kc (by kernel_rfl) (by kernel_rfl) ga gb (ao _) (ao _)) (kZ rs hg (by lia) (W2 sv rs) Jx 1) (by lia)
 have g1:=F3 (x:="deep") (p:=eP (sT (la 2))) (q:=sP (la 2)) (by kernel_rfl) (.inl (by kernel_rfl)) g
 rw [<-e] at g1
 exact g1
theorem jN (hg:∀r∈rs,r.1<5/\r.2∈rows) (hl:rs.length<=6):Fr 76 (.ex (la 3)) (wS (W3 sv rs) hp2) .next (wS (W4 sv rs) (BL (Ag rs).1 (Ag rs).2.1++Bt (Ag rs).2.2)):=by
 have e:la 3 = .Assign [.Name "made" (eP (sT (la 3)))] X3 (sP (la 3)):=by kernel_rfl
 have eE:X3 = .Call (e1 X3) [arg 0 X3,arg 1 X3] [] (eP X3):=by kernel_rfl
 have g:Vr 75 (.ev X3) (wS (W3 sv rs) hp2) (.ref 2) (wS (W3 sv rs) (BL (Ag rs).1 (Ag rs).2.1++Bt (Ag rs).2.2)):=by
  have ga:Vr 74 (.ev (arg 0 X3)) (wS (W3 sv rs) hp2) (.ref 1) (wS (W3 sv rs) hp2):=.of (by kernel_rfl)
  have gb:Vr 74 (.ev (arg 1 X3)) (wS (W3 sv rs) hp2) (R0 rs) (wS (W3 sv rs) hp2):=.of (by kernel_rfl)
  exact Gl (n:=74) (m:=71) (E:=X3) (a:=216) eE (by kernel_rfl) (by kernel_rfl) (fun l=>rfl) (Kc (by kernel_rfl) (by kernel_rfl) ga gb (ao _) (ao _)) (uE rs hg (by lia) (W3 sv rs) Jx) (by lia)
 have g1:=F3 (x:="made") (p:=eP (sT (la 3))) (q:=sP (la 3)) (by kernel_rfl) (.inl (by kernel_rfl)) g
 rw [<-e] at g1
 exact g1
noncomputable def Ft (d:Nat->Nat):Nat:=([1,2,3,4].map d).foldl max (d 0)
theorem WT:Ft d<=n<->∀k,k<5->d k<=n:=by
 unfold Ft
 rw [Sq]
 simp only [bq,List.map_nil,List.mem_cons,List.not_mem_nil,or_false,forall_eq_or_imp,forall_eq]
 constructor
 .rintro ⟨h0,h1,h2,h3,h4⟩ k hk
  exact five k hk h0 h1 h2 h3 h4
 .exact fun h=>⟨h 0 (by lia),h 1 (by lia),h 2 (by lia),h 3 (by lia),h 4 (by lia)⟩
theorem lU (d:Nat->Nat) (w:S) (hw:w.hd=0):builtin "max" [dV d] w=some (.ok (.int (Ft d:Nat)) w):=by
 have e:dV d = .lst (.int (d 0:Nat)::[1,2,3,4].map fun k=>V.int (d k:Nat)):=rfl
 rw [e]
 show (if w.hd=0 then maxV (.int (d 0:Nat)::[1,2,3,4].map fun k=>V.int (d k:Nat)) w else none)=_
 rw [ak hw]
 show maxV (.int (d 0:Nat)::[1,2,3,4].map fun k=>V.int (d k:Nat)) w=_
 unfold maxV
 rw [show Mine.Cb (.int (d 0:Nat)::[1,2,3,4].map fun k=>V.int (d k:Nat))=some _ from ints_cons (ints_map _ d)]
 show AF (V.int (Hr (d 0:Nat) ([1,2,3,4].map fun k=>(d k:Int)))) w=_
 rw [UR]
 rfl
end
section
open PySem
variable {n m N f j:Nat} {s w w1 w2 w3:S} {v x sv:V} {b:Bool} {as:List V} {l:Loc} {rs:List (Nat × List Nat)} {po fin:Int} {np:Nat->Int} {sc:Nat->List Nat} {d:Nat->Nat} {R:List Nat}
abbrev HT (j:Nat) (po fin:Int) (np:Nat->Int) (sc:Nat->List Nat) (R:List Nat):List O:=HS (.ref (14+j)) po fin np sc++Bt j++[.list (R.map nV)]
theorem pI (hs:∀i x,x∈sc i->x<5) (hM:Cn sc []<=30) (j:Nat) (E:Loc) (c:Sc) :
  ∃b,Vr 112 (.call 223 [.ref 2]) ⟨E,c,1,0,HS .none po fin np sc++Bt j⟩ (.bool b) ⟨E,c,1,0,HT j po fin np sc (A5 np)⟩ /\(b=true->Ring sc)/\(b=false->∃l,F1 sc l/\∀y,y<5->y∈l):=by
 obtain ⟨b,g,h1,h2⟩:=pJ (po:=po) (fin:=fin) (np:=np) hs hM [] c
 refine ⟨b,?_,h1,h2⟩
 have g:=(g.ins (L:=14) (k:=j) (X:=Bt j) (ao 14) (by simp [Bt])).AA (E:=E) (sc:=c)
 unfold S.ins at g
 dsimp only at g
 rw [KI,NW] at g
 have e1:[O.list ((A5 np).map nV)].map (O.rn 14 j)=[O.list ((A5 np).map nV)]:=congrArg (fun l=>[O.list l]) (G4 _)
 have e2:(V.ref 14).rn 14 j = .ref (14+j):=congrArg V.ref (aj (by lia))
 rw [e1,e2] at g
 exact g
theorem vd (hs:∀i x,x∈sc i->x<5) (D5:∀i,(sc i).length<=100) (W:Wt sc d) (Hi:∀k,np k=(Bl fun y=>(sc y).count k:Nat)) (j:Nat) (E:Loc) (c:Sc) :
  ∃hp,Vr 102 (.call 228 [.ref 2,.ref 1,dV d]) ⟨E,c,1,0,HT j po fin np sc (A5 np)⟩ (.bool true) ⟨E,c,1,0,hp⟩:=by
 obtain ⟨s0,s1,s2⟩:=W.start Hi
 obtain ⟨hp,g⟩:=ve (po:=po) (fin:=fin) (np:=np) (sc:=sc) (R:=A5 np) (d:=d) hs D5 W.P0 (Np sc d) W.step s0 s1 s2 [] c
 have g:=(g.ins (L:=14) (k:=j) (X:=Bt j) (show 14<=(HR po fin np sc (A5 np)).length by show 14<=15;decide) (by simp [Bt])).AA (E:=E) (sc:=c)
 unfold S.ins HR at g
 dsimp only at g
 rw [NW] at g
 have e1:[O.list ((A5 np).map nV)].map (O.rn 14 j)=[O.list ((A5 np).map nV)]:=congrArg (fun l=>[O.list l]) (G4 _)
 have e2:(V.ref 14).rn 14 j = .ref (14+j):=congrArg V.ref (aj (by lia))
 rw [e1,e2] at g
 exact ⟨_,g⟩
end
section
open PySem
variable {n m N f:Nat} {s w w1 w2 w3:S} {v x sv:V} {b:Bool} {as:List V} {l:Loc} {rs:List (Nat × List Nat)}
theorem jO (hg:∀r∈rs,r.1<5/\r.2∈rows) (hl:rs.length<=6):∃hp,Fr 130 (.ex (la 4)) (wS (W4 sv rs) (BL (Ag rs).1 (Ag rs).2.1++Bt (Ag rs).2.2)) (.ret (.bool true)) (wS (W4 sv rs) hp):=by
 have e:la 4 = .Return (some K8) jP:=by kernel_rfl
 have eR:K8 = .BoolOp .And [JY,Gx] (eP K8):=by kernel_rfl
 have eA:JY = .Compare Hq [.Is] [JZ] (eP JY):=by kernel_rfl
 have eF:Hq = .Call (e1 Hq) [arg 0 Hq] [] (eP Hq):=by kernel_rfl
 have eG:JZ = .Compare Ja [.Gt] [e2 JZ] (eP JZ):=by kernel_rfl
 have eM:Ja = .Call (e1 Ja) [arg 0 Ja] [] (eP Ja):=by kernel_rfl
 have eB:Gx = .Call (e1 Gx) [arg 0 Gx,arg 1 Gx,arg 2 Gx] [] (eP Gx):=by kernel_rfl
 have W:=xE hg
 have D5:∀i,((Ag rs).2.1 i).length<=6:=fun i=>bg (qd rs i) hl
 have hM:Cn (Ag rs).2.1 []<=30:=mV D5
 obtain ⟨b,gr,hr,ht⟩:=pI (po:=0) (fin:=0) (np:=(Ag rs).1) (QN hg) hM (Ag rs).2.2 (W4 sv rs) Jx
 obtain ⟨hp,gt⟩:=vd (po:=0) (fin:=0) (np:=(Ag rs).1) (QN hg) (fun i=>by have:=D5 i;lia) W (nk rs) (Ag rs).2.2 (W4 sv rs) Jx
 have hb:b=decide ((5:Int)<(Ft (BV rs 6):Nat)):=by
  have hd:decide ((5:Int)<(Ft (BV rs 6):Nat))=decide (5<Ft (BV rs 6)):=decide_eq_decide.mpr (by lia)
  rw [hd]
  induction b using bc with
  |true=>
   obtain ⟨x,hx,h6⟩:=W.ring (hr rfl)
   have:=WT.mp (ao (Ft (BV rs 6))) x hx
   exact (decide_eq_true (by lia)).symm
  |false=>
   obtain ⟨l,h1,h2⟩:=ht rfl
   have:=WT.mpr (W.vq h1 h2)
   exact (decide_eq_false (by lia)).symm
 have gF:Vr 113 (.ev Hq) (wS (W4 sv rs) (BL (Ag rs).1 (Ag rs).2.1++Bt (Ag rs).2.2)) (.bool b) (wS (W4 sv rs) (HT (Ag rs).2.2 0 0 (Ag rs).1 (Ag rs).2.1 (A5 (Ag rs).1))):=by
  have ga:Vr 112 (.ev (arg 0 Hq)) (wS (W4 sv rs) (BL (Ag rs).1 (Ag rs).2.1++Bt (Ag rs).2.2)) (.ref 2) (wS (W4 sv rs) (BL (Ag rs).1 (Ag rs).2.1++Bt (Ag rs).2.2)):=.of (by kernel_rfl)
  exact Gl (n:=112) (m:=112) (E:=Hq) (a:=223) eF (by kernel_rfl) (by kernel_rfl) (fun l=>rfl) (JK (by kernel_rfl) ga) gr (ao _)
 have gM:Vr 10 (.ev Ja) (wS (W4 sv rs) (HT (Ag rs).2.2 0 0 (Ag rs).1 (Ag rs).2.1 (A5 (Ag rs).1))) (.int (Ft (BV rs 6):Nat)) (wS (W4 sv rs) (HT (Ag rs).2.2 0 0 (Ag rs).1 (Ag rs).2.1 (A5 (Ag rs).1))):=by
  rw [eM]
  exact .IP (N:=9) (n:=4) (m:=4) (id:="max") (x:=dV (BV rs 6)) (w:=wS (W4 sv rs) (HT (Ag rs).2.2 0 0 (Ag rs).1 (Ag rs).2.1 (A5 (Ag rs).1))) (w1:=wS (W4 sv rs) (HT (Ag rs).2.2 0 0 (Ag rs).1 (Ag rs).2.1 (A5 (Ag rs).1))) (by kernel_rfl) (by kernel_rfl) (.of (by kernel_rfl)) (.of (by kernel_rfl)) (lU _ _ rfl) (by lia) (by lia)
 have gG:Vr 12 (.ev JZ) (wS (W4 sv rs) (HT (Ag rs).2.2 0 0 (Ag rs).1 (Ag rs).2.1 (A5 (Ag rs).1))) (.bool (decide ((5:Int)<(Ft (BV rs 6):Nat)))) (wS (W4 sv rs) (HT (Ag rs).2.2 0 0 (Ag rs).1 (Ag rs).2.1 (A5 (Ag rs).1))):=by
  rw [eG]
  exact .cmp (N:=11) (n:=10) (m:=8) (x:=.int (Ft (BV rs 6):Nat)) (y:=.int 5) (w1:=wS (W4 sv rs) (HT (Ag rs).2.2 0 0 (Ag rs).1 (Ag rs).2.1 (A5 (Ag rs).1))) (w:=wS (W4 sv rs) (HT (Ag rs).2.2 0 0 (Ag rs).1 (Ag rs).2.1 (A5 (Ag rs).1))) (by kernel_rfl) gM (.of (by kernel_rfl)) rfl (by lia) (by lia)
 have gA:Vr 114 (.ev JY) (wS (W4 sv rs) (BL (Ag rs).1 (Ag rs).2.1++Bt (Ag rs).2.2)) (.bool true) (wS (W4 sv rs) (HT (Ag rs).2.2 0 0 (Ag rs).1 (Ag rs).2.1 (A5 (Ag rs).1))):=by
  rw [eA]
  exact .cmp (N:=113) (n:=113) (m:=12) (x:=.bool b) (y:=.bool (decide ((5:Int)<(Ft (BV rs 6):Nat)))) (w:=wS (W4 sv rs) (HT (Ag rs).2.2 0 0 (Ag rs).1 (Ag rs).2.1 (A5 (Ag rs).1))) (w':=wS (W4 sv rs) (HT (Ag rs).2.2 0 0 (Ag rs).1 (Ag rs).2.1 (A5 (Ag rs).1))) (by kernel_rfl) gF gG (by
   rw [<-hb]
   show BR (some (b==b)) _=_
   rw [beq_self_eq_true];rfl) (by lia) (by lia)
 have gB:Vr 113 (.ev Gx) (wS (W4 sv rs) (HT (Ag rs).2.2 0 0 (Ag rs).1 (Ag rs).2.1 (A5 (Ag rs).1))) (.bool true) (wS (W4 sv rs) hp):=
  Gl (n:=112) (m:=102) (E:=Gx) (a:=228) eB (by kernel_rfl) (by kernel_rfl) (fun l=>rfl) ⟨wS (W4 sv rs) (HT (Ag rs).2.2 0 0 (Ag rs).1 (Ag rs).2.1 (A5 (Ag rs).1)),by kernel_rfl,.refl _⟩ gt (by lia)
 refine ⟨hp,?_⟩
 rw [e]
 refine Fr.up (n:=116) (Fr.VD ?_) (by lia) (.refl _)
 rw [eR]
 exact gA.Xp (N:=114) gB (by lia) (by lia)
theorem jX (ns:List Int):∃st',Ih.f (run 150) (.exs (Aj 235).body) (B0 235 (Aj 235) [("script",.lst (ns.map .int))] ⟨[],[],1,0,[.tab]⟩)=some (.ok (.ret (.bool true)) st'):=by
 have e:(Aj 235).body=[la 0,la 1,la 2,la 3,la 4]:=by kernel_rfl
 have hl:(Hy (ns.take 3)).length<=6:=by
  unfold Hy fixed
  simp
  lia
 have hg:=qO (ns.take 3)
 obtain ⟨hp,g4⟩:=jO (sv:=.lst (ns.map .int)) hg hl
 have g:Fr 150 (.exs (Aj 235).body) (wS [("script",.lst (ns.map .int))] [.tab]) (.ret (.bool true)) (wS (W4 (.lst (ns.map .int)) (Hy (ns.take 3))) hp):=by
  rw [e]
  exact .exs (N:=149) (jK ns) (.exs (N:=148) jL (.exs (N:=147) (jM hg hl) (.exs (N:=146) (jN hg hl) (g4.FJ (by simp)) (by lia) (by lia)) (by lia) (by lia)) (by lia) (by lia)) (by lia) (by lia)
 obtain ⟨r,er,_⟩:=g
 have ei:B0 235 (Aj 235) [("script",.lst (ns.map .int))] ⟨[],[],1,0,[.tab]⟩=wS [("script",.lst (ns.map .int))] [.tab]:=by
  unfold B0
  rw [aj (by decide)];rfl
 rw [ei]
 exact ⟨r,er⟩
end
section
open PySem PySem.W PyProof.Rows PySem.Calls
variable {AB:Program} {w:World} {A:Around} {AA:Env} {Z:List Addr} {φ:Fz} {ρ:AZ} {st st':S} {h:Heap} {D:Addr} {ob:Obj} {P:Params} {v:V} {vs:List Value} {ns:List Int} {s Ay:Shared} {E Q:Value->Shared->Prop} {xs:Array Value} {R:WRecords} {a:WTm} {e:WCtx} {x:Bool} {args l:List WData} {cl:Str->Option Addr} {ord:List DictEntry->List DictEntry} {i:Int}
theorem AK.more (H:AK AB w A AA Z φ ρ st h) (h0:st.hd=0) (Ij:∀x,st.sc.lookup x≠some .cell/\st.sc.lookup x≠some .free) (hD:h.get? D=some ob) (hf:φ D=none) (hr:D∉Aa ρ) (hz:D∉Z)
  (A6:∀l,A.frames=some l->∀e∈l,e.frame≠some D):AK AB w A AA Z (put φ D ob) ρ st h:=by
 have le:Le φ (put φ D ob):=fun b x e=>by
  unfold put
  rw [aj (fun q=>by rw [q,hf] at e;cases e)]
  exact e
 have ne:∀b,b≠D->put φ D ob b=φ b:=fun b n=>aj n
 refine ⟨H.gl.mono le,⟨fun b x e=>?_,H.rel.len,fun i o q e1 e2=>(H.rel.ob i o q e1 e2).mono le (.refl _) fun a ha x e=>e,H.rel.nd,fun a ha=>?_,H.rel.th⟩,
  ⟨H.er.kind,H.er.gl,H.er.bl,H.er.cd,H.er.kl,H.er.kc,H.er.kf,H.er.kg,?_,fun x hx=>?_,H.er.inj,H.er.zl,fun a ha=>?_⟩,⟨?_,⟨H.amb.hd.1,fun q=>?_⟩,H.amb.un⟩,H.lo,H.tb⟩
 .by_cases q:b=D
  .subst q;rw [DY] at e;cases e;exact hD
  .rw [ne b q] at e;exact H.rel.fz _ _ e
 .rw [ne a (fun q=>hr (q ▸ ha))];exact H.rel.ap a ha
 .obtain ⟨m,hn,hm⟩:=H.er.ns
  exact ⟨m,hn,fun x v hx hv=>let ⟨rv,a,b⟩:=hm x v hx hv;⟨rv,a,b.mono le (.refl _)⟩⟩
 .rcases hx with hx | hx
  .exact ((Ij x).1 hx).elim
  .exact ((Ij x).2 hx).elim
 .obtain ⟨z1,z2,z3⟩:=H.er.zr a ha
  exact ⟨z1,(ne a (fun q=>hz (q ▸ ha))).trans z2,z3⟩
 .obtain ⟨l,e,r⟩:=H.amb.fr
  refine ⟨l,e,fun x hx=>⟨(r x hx).1,?_⟩⟩
  obtain ⟨L,o,a1,a2,a3,a4,a5⟩:=(r x hx).2
  exact ⟨L,o,a1,a2,a3,a4,(ne L (fun q=>A6 l e x hx (q ▸ a1))).trans a5⟩
 .rw [h0] at q;cases q
noncomputable def FO (h:Heap):Fz:=fun a=>if a=57\/a=6 then none else h.get? a
noncomputable def SD:Env:={(default:Env) with scope:={(default:Env).scope with kind:=.function},locals:=6,globals:=mainGlobals,builtins:=builtinsNs,code:=.ref 61}
noncomputable def LR:S:=⟨[],[],1,0,[.tab]⟩
noncomputable def WR:V->Value
 | .glob a=>.ref a
 | .bi id=>.builtin id
 | .ty n=>.type n
 | .int i=>.int i (if i = -1 then 506 else 509)
 |_=>.none
noncomputable def Up:V->Bool
 | .glob _=>true
 | .bi id=>handedIn (.builtin id)
 | .ty _=>true
 | .int _=>true
 |_=>false
theorem vm (h:Up v=true) (ψ:Fz) (ρ:AZ):VR P ψ ρ (WR v) v:=by
 cases v with
 |glob a=>exact .glob a
 |bi id=>exact .bi id h
 |ty n=>exact .ty n
 |int i=>exact .int i _
 |_=>exact Bool.noConfusion (h:false=true)
theorem Sx {x:Str} {v:V}:∀{l:Loc},AN x l=some v->(x,v)∈l
 | [],h=>nomatch (h:none=some v)
 | (y,u)::r,h=>by
  by_cases q:(y==x)=true
  .have e:some u=some v:=(ak q).symm.trans h
   rw [<-eq_of_beq q,<-aa e]
   exact .head _
  .exact .tail _ (Sx ((aj q).symm.trans h))
def mgT (P:Params) (x:Str):Option Value:=nsFind (G2 P mainGlobals) x
def US (P:Params) (x:Str):Option Value:=nsFind (G2 P builtinsNs) x
theorem vn:Df.map (fun p=>Qm (mgT P) (US P) p.1)=Df.map fun p=>some (WR p.2):=by kernel_rfl
theorem cI (K:(KK w.params).In h):Glob w.params (FO h):=by
 have kk:∀a o,(KK w.params).lookup a=some o->FO h a=some o:=fun a o e=>by
  unfold FO
  have:¬ (a=57\/a=6):=by
   rintro (rfl | rfl)
   .have:(KK w.params).lookup 57=none:=by kernel_rfl
    rw [this] at e;cases e
   .have:(KK w.params).lookup 6=none:=by kernel_rfl
    rw [this] at e;cases e
  rw [aj this]
  exact K a o e
 refine ⟨kk,⟨mgT w.params,US w.params,LC (a:=mainGlobals) kk (by kernel_rfl),LC (a:=builtinsNs) kk (by kernel_rfl),fun x v hx=>?_⟩,⟨_,kk 1 _ rfl⟩,?_⟩
 .have m:=Sx hx
  exact ⟨_,List.map_inj_left.mp (vn (P:=w.params)) _ m,vm (List.all_eq_true.mp (show (Df.all fun p=>Up p.2)=true from by kernel_rfl) _ m)⟩
 .exact @KD.mk _ "CycleError" "CycleError" 95 [.type "ValueError"] [.type "ValueError",.type "Exception",.type "BaseException",.type "object"] true [] [] false none none (some (.ref 87)) none (some (.str "CycleError" 548)) (some (.str "CycleError" 556)) (some (.bool true)) _ _ _ (PySem.F.excBase_ValueError) (kk 96 _ (by kernel_rfl)) (LC (a:=95) kk (by kernel_rfl)) (by kernel_rfl)
theorem fP (K:(KK w.params).In h) (Gp:h.get? 57=some (tabObj #[])) (h6:h.get? 6=some ⟨.type "dict",none,.dict #[] 0,#[]⟩):AK AB w callerA SD [6] (FO h) [(57,none)] LR h:=by
 have aX:FO h 57=none:=ak (.inl rfl)
 have f6:FO h 6=none:=ak (.inr rfl)
 refine ⟨cI K,⟨fun a o e=>?_,rfl,fun i o p e1 e2=>?_,?_,fun a ha=>?_,fun a ha=>?_⟩,⟨rfl,rfl,rfl,fun _=>rfl,fun x e=>(by cases e),fun x e=>(by cases e),fun x e=>(by cases e),fun x e=>(by cases e),?_,fun x e=>(by rcases e with e | e <;> cases e),fun x y c e=>(by cases e),.head _,fun a ha=>?_⟩,
  ⟨⟨[],rfl,fun e m=>(by cases m)⟩,⟨fun _=>rfl,fun q=>(by cases q)⟩,by decide⟩,ao _,⟨ao _,rfl,rfl⟩⟩
 .unfold FO at e
  split at e
  .cases e
  .exact e
 .match i with
  |0=>cases e1;cases e2;exact ⟨rfl,#[],Gp,trivial⟩
  |i+1=>cases e2
 .decide
 .have:a=57:=by simpa [Aa] using ha
  rw [this];exact aX
 .have:a=57:=by simpa [Aa] using ha
  rw [this,Gp];exact fun q=>by cases q
 .exact ⟨fun _=>none,⟨_,_,_,h6,rfl,fun e m=>(by simp at m),fun _=>rfl⟩,fun x v e=>(by cases e)⟩
 .have:a=6:=by simpa using ha
  rw [this]
  exact ⟨by simp [Aa],f6,by rw [h6];exact fun q=>by cases q⟩
theorem ie (h:IntsAre vs ns):AV P φ ρ vs (ns.map .int):=by
 induction h with
 |nil=>exact .nil
 |cons i t _ ih=>exact .cons (.int i t) ih
theorem qZ (x:Str):(Aj 235).sc.lookup x≠some .cell/\(Aj 235).sc.lookup x≠some .free:=by
 have h:(Aj 235).sc.all (fun p=>!(p.2 == .cell) && !(p.2 == .free))=true:=by kernel_rfl
 refine ⟨fun e=>?_,fun e=>?_⟩
 .have:=List.all_eq_true.mp h _ (mem_of_lookup e)
  simp at this
 .have:=List.all_eq_true.mp h _ (mem_of_lookup e)
  simp at this
set_option maxHeartbeats 1000000 in
theorem vp (K:(KK w.params).In s.heap) (Gp:s.heap.get? 57=some (tabObj #[])) (h6:s.heap.get? 6=some ⟨.type "dict",none,.dict #[] 0,#[]⟩)
  (hD:s.heap.get? D=some (Ba xs 0)) (PF:IntsAre xs.toList ns) (hlen:ns.length<=1000)
  (K3:Ih.f (run 150) (.exs (Aj 235).body) (B0 235 (Aj 235) [("script",.lst (ns.map .int))] LR)=some (.ok (.ret (.bool true)) st'))
  (hQ:∀h' tk,(∀a o,a≠57->s.heap.get? a=some o->h'.get? a=some o)->(∃ps,h'.get? 57=some (tabObj ps))->Q (.bool true) {s with heap:=h',toks:=tk}) :
  wpAny (model AB w) callerA (call (.ref 235) [.ref D]) Q E s:=by
 have H:AK AB w callerA SD [6] (FO s.heap) [(57,none)] LR s.heap:=fP K Gp h6
 have nD:¬ (D=57\/D=6):=by
  rintro (rfl | rfl)
  .rw [hD] at Gp;cases Gp
  .rw [hD] at h6;exact absurd (congrArg Obj.cls (aa h6)) (by unfold Ba;simp)
 have fD:FO s.heap D=some (Ba xs 0):=(aj nD).trans hD
 have hv:AV w.params (FO s.heap) [(57,none)] [.ref D] [.lst (ns.map .int)]:=.cons (.lst fD (ie PF) (by simpa using hlen)) .nil
 have F:Lb w.params 235 (Aj 235) (CK w.params 235):=by
  obtain ⟨fn,h1⟩:=Tt (f:=235) (by decide)
  have:=(L6 h1).2
  rw [<-this]
  exact Sl h1 w.params
 have X:=H.CR
 have Oo:s.heap.CodeRec (CK w.params 235).code (CK w.params 235).qualname:=by
  obtain ⟨c,o,ws,t,c1,c2,c3,c4⟩:=F.code
  exact ⟨c,o,ws,t,c1,X _ _ c2,c3,c4⟩
 refine wpAny_call (codeAny_call_function (by decide) (X _ _ F.obj) rfl F.co F.gen F.body Oo ?_)
 have fH:Bh (Aj 235) [.lst (ns.map .int)]=some ([("script",.lst (ns.map .int))]:Loc):=by kernel_rfl
 refine Rg (by decide) (by decide) H hv fH fun AY AH tk bs le new E0 H1 br nm=>?_
 rw [F.cl]
 have par:∀x∈bs,(CK w.params 235).scope.names.lookup x.1=some .local\/(CK w.params 235).scope.names.lookup x.1=some .cell:=fun x m=>by
  have m':x.1∈(Aj 235).params++(Aj 235).rest.toList:=nm ▸ List.mem_map_of_mem m
  have:=List.all_eq_true.mp F.par _ m'
  rw [F.names]
  simpa using this
 have nd:(bs.map (·.1)).Nodup:=by rw [nm];exact F.nd
 refine wpAny_newFunctionEnv_cells (s:={s with heap:=AH,toks:=tk}) F.kind (fun x m=>?_) fun A3 he BX x=>?_
 .rcases par x m with q | q
  .exact .inl q
  .obtain ⟨c,hc⟩:=Lq (n:=AH.objs.size+1) q
   exact .inr ⟨q,by rw [show ({s with heap:=AH,toks:=tk}:Shared).heap.objs.size+1=AH.objs.size+1 from rfl,hc];rfl⟩
 obtain ⟨H2,dead,PX,FQ⟩:=enter F (s:={s with heap:=AH,toks:=tk}) H1 br nd (DC 235) (A:=callerA) (fr:=[]) rfl (by decide) he x (lo:=1) ⟨ao _,ao _⟩
 obtain ⟨AR,Qk,q⟩:=x.toInCall.same
 have q:BX={s with heap:=AR,toks:=Qk}:=q
 clear x
 subst q
 have hl:A3.frame=some A3.locals:=by rw [he];rfl
 have kk:∀b o,s.heap.get? b=some o->AR.get? b=some o:=fun b o e=>PX b o (E0 b o e)
 have z6:6∉El A3 (Aj 235).sc:=fun m=>by
  have:=dead 6 m
  rw [show ({s with heap:=AH,toks:=tk}:Shared).heap.get? 6=AH.get? 6 from rfl,E0 _ _ h6] at this;cases this
 have f6:AY 6=none:=by
  cases q:AY 6 with
  |none=>rfl
  |some o=>have:=new 6 o q (ak (.inr rfl));rw [h6] at this;cases this
 have l6:A3.locals≠6:=fun e=>z6 (e ▸ H2.er.zl)
 have H3:=H2.more rfl qZ (kk _ _ h6) f6 (by simp [Aa]) z6 (fun l e x m=>by
  rw [FQ] at e
  cases e
  rcases List.mem_cons.mp m with rfl | m
  .rw [hl];exact fun q=>l6 (aa q)
  .cases m)
 refine ⟨H2.noLimit,codeAny_func ?_⟩
 have JS:Bp (callerA.deeper A3) 150:=⟨by show 1+claimMargin+1+2*150+4<recursionLimit;decide,by show 4+3+5*150+300<cLine;decide,_,FQ⟩
 refine (sound (AB:=AB) (w:=w) 150).exs (callerA.deeper A3) A3 [] A3.locals JS FQ hl (Aj 235).body (B0 235 (Aj 235) [("script",.lst (ns.map .int))] LR) _ _ _ _ _ _ H3 ⟨fun z=>?_,fun fl st' z rv AE ρ' h' CI GC p=>?_,fun c st' z ev AE ρ' h' CI HY p=>?_⟩
 .rw [K3] at z;cases z
 .rw [K3] at z
  cases z
  cases GC with
  |ret hv=>
   obtain rfl:=hv.F4
   refine hQ h' CI (fun a o CJ e=>?_) ?_
   .by_cases Of:a=6
    .subst Of
     rw [h6] at e
     cases e
     exact p.rel.fz _ _ (p.ext.le _ _ (DY ..))
    .have e1:FO s.heap a=some o:=(aj (fun q=>q.elim CJ Of)).trans e
     have e2:=le _ _ e1
     have e3:put AY 6 ⟨.type "dict",none,.dict #[] 0,#[]⟩ a=some o:=(aj Of).trans e2
     exact p.rel.fz _ _ (p.ext.le _ _ e3)
   .have t:=p.tabs H3.tb
    obtain ⟨_,vs,e,_⟩:=p.rel.ob _ _ _ t.hp t.at_
    exact ⟨vs,e⟩
 .rw [K3] at z;cases z
def Js:DefRec:=match defOf qv "law" with | some p=>p.1 | none=>⟨default,⟨[],[],none,[],[],none,[]⟩,[],default,default⟩
theorem jV:Fg.wellSaid=true:=by kernel_rfl
theorem T5:Fg.row.toRowW.promised:=⟨[.list []],by kernel_rfl,by kernel_rfl⟩
theorem jU:(chainsOk qv&&opensWell pw&&(frees Fg.row.toRowW&&Fg.row.within.isEmpty))=true:=by kernel_rfl
theorem jR:pw.bare:=⟨rfl,rfl,rfl,rfl,rfl,by decide +kernel⟩
theorem jS:defOf qv "law" = some (Js,[]):=by kernel_rfl
theorem jW:pw.theDef "law" = some (Js.params,Js.body,Js.scope):=by kernel_rfl
theorem jT:kwWritten? Js.params.kwonlyargs Js.params.kw_defaults=some []:=by kernel_rfl
theorem items_int {R:WRecords}:∀{xs:List WData},WShape.hasItems R xs .int=true->∃ns:List Int,xs=ns.map .int
 | [],_=>⟨[],rfl⟩
 |x::r,h=>by
  simp only [WShape.hasItems,Bool.and_eq_true] at h
  obtain ⟨i,rfl⟩:=hasW_int h.1
  obtain ⟨ns,rfl⟩:=items_int h.2
  exact ⟨i::ns,rfl⟩
theorem nj (h:a.value R e=some (.bool x)):(WTm.not a).value R e=some (.bool (!x)):=by
 rw [WTm.value,h] <;> rfl
theorem Xq (h:a.value R e=some (.bool x)):(WTm.and a (.lit (.bool true))).value R e=some (.bool x):=by
 rw [WTm.value,h];induction x using bc <;> rfl
theorem Xu (h:Fg.row.toRowW.claim.pre args=true):∃ns:List Int,args=[.list (ns.map .int)]/\ns.length<=63:=by
 obtain ⟨h1,h2⟩:=pre_splitW h
 obtain ⟨d,r,rfl,a,b⟩:=hasAllW_cons (e:=.list .int) (es:=[]) h1
 obtain rfl:=hasAllW_nil b
 obtain ⟨xs,rfl,c⟩:=hasW_list a
 obtain ⟨ns,rfl⟩:=items_int c
 refine ⟨ns,rfl,?_⟩
 have e:Fg.row.toRowW.pre.value Fg.row.toRowW.records {args:=[.list (ns.map .int)]}=some (.bool (!decide ((63:Int)<((ns.map WData.int).length:Int)))):=by
  exact Xq (a:=.not (.lt (.lit (.int 63)) (.len (.arg 0)))) (nj rfl)
 have h3:=h2
 unfold WTm.holds at h3
 rw [e] at h3
 cases hd:decide ((63:Int)<((ns.map WData.int).length:Int)) with
 |true=>rw [hd] at h3;cases h3
 |false=>
  have:=of_decide_eq_false hd
  simp only [bu] at this
  omega
theorem jY:layAllW [] cl P ord (.int i::l) s=(layAllW [] cl P ord l {s with toks:=s.toks+1}).map fun r=>(.int i s.toks::r.1,r.2):=by
 show (match layAllW [] cl P ord l {s with toks:=s.toks+1} with | some r=>some (Value.int i s.toks::r.1,r.2) | none=>none)=_
 induction layAllW [] cl P ord l {s with toks:=s.toks+1} using oc <;> rfl
set_option tactic.hygienic true in
theorem lay_ints:∀{ns:List Int} {s:Shared} {r:List Value × Shared},layAllW [] cl P ord (ns.map .int) s=some r->IntsAre r.1 ns:=by
 intro ns
 induction ns with
 |nil=>intro s r h;obtain rfl:=aa (h:some ([],s)=some r);exact .nil
 |cons i ns ih=>
  intro s r h
  obtain ⟨r',hr,rfl⟩:=Option.map_eq_some_iff.mp (jY.symm.trans h)
  exact .cons _ _ (ih hr)
theorem jZ (h:layAllW [] cl P ord [.list (ns.map .int)] s=some (vs,Ay)) :
  ∃D xs,vs=[.ref D]/\Ay.heap.get? D=some (Ba xs 0)/\IntsAre xs.toList ns:=by
 rw [layAllW,layW] at h
 induction q:layAllW [] cl P ord (ns.map .int) s using oc with
 |none=>rw [q] at h;exact nn h
 |some r=>
  rw [q] at h
  obtain ⟨rfl,rfl⟩:=Prod.mk.inj (aa h)
  exact ⟨_,r.1.toArray,rfl,au _ rfl,lay_ints q⟩
theorem Y7 (K:(KK P).In h):isCodeTable h 57:=⟨61,_,_,K 61 _ rfl,rfl,rfl,rfl⟩
theorem head (hp:∀ns:List Int,ns.length<=63->∃st',Ih.f (run 150) (.exs (Aj 235).body) (B0 235 (Aj 235) [("script",.lst (ns.map .int))] LR)=some (.ok (.ret (.bool true)) st')):Fg.Holds:=by
 refine holds_law jV fun said=>⟨said,T5,open_anyG (r:=Fg.row.toRowW) (run:=fun f vs=>PySem.call f vs) (tree:=fun vs=>do match <- nsGet mainNs Fg.row.name with
   |some f=>do ret (<- PySem.call f vs)
   |none=>unsupported "claim.caller:no-such-global") (q:=qv) (loose:=MX) (XP:=fun _ _=>True) (YP:=HK.says) hl HK.of HK.keeps (fun _ _=>trivial) (fun _ _ _ _ _=>trivial) (fun s _=>recFacts_nil rfl) (by rfl) jU jR T5
  (fun vs w s mg f Q E hg hf h=>ah (wpAny_nsGet hg (by rw [hf];exact ah (b9 h (fun _ _ x=>aq x) fun _ _ x=>x))))
  (fun w s hg G n hn=>?_) fun w s0' Ay mg mb G hY args vs as g9 hlay L low=>?_⟩
 .have hn:n∈(["law"]:List Str):=hn
  obtain rfl:n = "law":=by simpa using hn
  exact pinned_of_view hg G jS jW jT
 .obtain ⟨ns,rfl,hlen⟩:=Xu g9
  obtain ⟨ord,_,hl⟩:=L.laid
  obtain ⟨D,xs,rfl,hD,PF⟩:=jZ hl
  have K':(KX w.params).In Ay.heap:=km_in_of hY
  have Gp:Ay.heap.get? 57=some (tabObj #[]):=km_tabs_of hY 57 (.head _)
  have h6:=K' 6 _ rfl
  have K:(KK w.params).In Ay.heap:=fun a o e=>by
   by_cases h:a=6
   .subst h
    have:(KK w.params).lookup 6=none:=by kernel_rfl
    rw [this] at e;cases e
   .refine K' a o ?_
    unfold KX
    rw [List.lookup_cons,show (a==6)=false from beq_false_of_ne h]
    exact e
  have gY:mg "law" = some (.ref 235):=by
   obtain ⟨o,es,ep,e1,e2,e3,e4⟩:=G.T.g
   have e':=K 3 _ rfl
   rw [show (3:Addr)=mainGlobals from rfl,e1] at e'
   cases e'
   cases e2
   rw [<-e4]
   kernel_rfl
  obtain ⟨st',K3⟩:=hp ns hlen
  refine ⟨_,gY,vp K Gp h6 hD PF (by omega) K3 fun h' tk hk ⟨ps,ht⟩=>?_⟩
  refine ⟨.inl ⟨_,.bool true,[],rfl,fun cls=>rfl,.bool _,?_,fun _=>⟨List.nodup_nil,fun a m=>by cases m⟩⟩,⟨fun b o e=>?_,fun b o e=>?_⟩,rfl,.of_eq L.gens⟩
  .kernel_rfl
  .by_cases hb:b=57
   .subst hb
    refine .inr (.inl ⟨Y7 K,?_⟩)
    rw [Gp] at e
    cases e
    exact ⟨rfl,#[],ps,rfl,by rw [ht];simp⟩
   .exact .inl (hk b o hb e)
  .by_cases hb:b=57
   .subst hb
    exact ⟨_,ht⟩
   .exact ⟨o,hk b o hb e⟩
end
section
open PySem
theorem whole:Fg.Holds:=head fun ns _=>jX ns
end
end
end Mine
theorem PySem.Challenge.cw_in0126_01_holds : PySem.Challenge.rw_in0126_01.Holds :=
  Mine.whole
