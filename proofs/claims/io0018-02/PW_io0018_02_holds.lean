import PyProof.Rows.All
import Wide.All
import OpenK.AllK
import Wide.FinOn
import PySem.Challenge.RW_io0018_02
set_option Elab.async false
set_option genSizeOf false
set_option genInjectivity false
set_option maxRecDepth 100000
set_option linter.unusedVariables false
set_option linter.unusedSimpArgs false
section
open PySem
set_option backward.match.sparseCases false
namespace Mine
inductive V where
  | none
  | bool (b:Bool)
  | int (i:Int)
  | str (s:List Nat)
  | typ (t:Nat)
  | rng (n:Int)
  | tup (vs:List V)
  | lst (vs:List V)
  | exc (m:List Nat)
  | obj (i:Nat)
inductive AO where
  | list (vs:List V)
  | inst (c:Nat) (d:Nat)
  | attrs (l:List (Nat × V))
  | dict (l:List (List Nat × V))
  | deque (vs:List V)
  | keys (l:List (List Nat))
  | ords (l:List Nat)
  | cell (v:Option V)
inductive LV where
  | un
  | val (v:V)
  | cel (i:Nat)
inductive Op where | add | sub | mul | mod | fdiv | pow
inductive Cm where | eq | ne | lt | le | gt | ge | is_ | isNot | in_ | notIn
inductive BI where | len | int | str | isStr | typ | deque | range | fromkeys
inductive BM where | find | join | append | pop | maketrans | translate
mutual
inductive Ex where
  | bad
  | lit (v:V)
  | loc (i:Nat)
  | attr (e:Ex) (a:Nat)
  | callF (f:Nat) (as:Exs)
  | callM (e:Ex) (m:Nat) (as:Exs)
  | newC (c:Nat) (as:Exs) (ks:List Nat)
  | bi (b:BI) (as:Exs)
  | bm (m:BM) (e:Ex) (as:Exs)
  | cmp (o:Cm) (a b:Ex)
  | boolop (isAnd:Bool) (es:Exs)
  | not_ (e:Ex)
  | neg (e:Ex)
  | bin (o:Op) (a b:Ex)
  | ife (c a b:Ex)
  | idx (a b:Ex)
  | slice (a lo hi:Ex)
  | list (es:Exs)
  | tup (es:Exs)
  | dict (ks vs:Exs)
  | comp (it:Ex) (fr:List (Option Nat)) (t:Nat) (cs:Exs) (e:Ex)
inductive Exs where
  | nil
  | cons (e:Ex) (es:Exs)
end
mutual
inductive St where
  | bad
  | pass
  | expr (e:Ex)
  | asg (i:Nat) (e:Ex)
  | asgA (o:Ex) (a:Nat) (e:Ex)
  | asgI (o k e:Ex)
  | unp (is:List Nat) (e:Ex)
  | aug (i:Nat) (o:Op) (e:Ex)
  | augA (x:Ex) (a:Nat) (o:Op) (e:Ex)
  | if_ (c:Ex) (a b:Sts)
  | while_ (c:Ex) (b:Sts)
  | for_ (i:Nat) (it:Ex) (b:Sts)
  | ret (e:Ex)
  | brk
  | cont
  | raise_ (m:List Nat)
  | try_ (b:Sts) (i:Nat) (h:Sts)
inductive Sts where
  | nil
  | cons (s:St) (ss:Sts)
end
inductive R (α:Type) where
  | ok (a:α) (s:List AO)
  | exc (m:List Nat) (s:List AO)
  | fail
inductive RS where
  | next (l:List LV) (s:List AO)
  | ret (v:V) (s:List AO)
  | brk (l:List LV) (s:List AO)
  | cont (l:List LV) (s:List AO)
  | exc (g:Nat) (m:List Nat) (l:List LV) (s:List AO)
  | fail
@[reducible] noncomputable def R.bind {α β:Type} (r:R α) (f:α→List AO→R β):R β :=
  match r with
  | .ok a s=>f a s
  | .exc m s=>.exc m s
  | .fail=>.fail
noncomputable def lim:Nat:=16777216
noncomputable def idxC (c:Nat):List Nat→Nat→Int
  | [],_=>-1
  | y :: ys,k=>if y == c then (k:Int) else idxC c ys (k+1)
noncomputable def findC (c:Nat) (s:List Nat) (lo hi:Nat):Int:=idxC c ((s.take hi).drop lo) lo
noncomputable def clip (n:Nat) (i:Int):Nat:=if i < 0 then (i+n).toNat else min i.toNat n
noncomputable def V.int?:V→Option Int
  | .int i=>some i
  | _=>Option.none
noncomputable def V.str?:V→Option (List Nat)
  | .str x=>some x
  | _=>Option.none
noncomputable def V.bool?:V→Option Bool
  | .bool x=>some x
  | _=>Option.none
noncomputable def V.typ?:V→Option Nat
  | .typ x=>some x
  | _=>Option.none
noncomputable def V.exc?:V→Option (List Nat)
  | .exc x=>some x
  | _=>Option.none
noncomputable def V.isObj:V→Bool
  | .obj _=>true
  | _=>false
noncomputable def V.tup?:V→Option (List V)
  | .tup vs=>some vs
  | _=>Option.none
noncomputable def V.isNone:V→Bool
  | .none=>true
  | _=>false
noncomputable def one {α:Type}:List α→Option α
  | []=>none
  | a :: r=>match r with
    | []=>some a
    | _ :: _=>none
noncomputable def V.chr? (v:V):Option Nat:=v.str?.bind one
noncomputable def AO.list?:AO→Option (List V)
  | .list vs=>some vs
  | _=>none
noncomputable def AO.deque?:AO→Option (List V)
  | .deque vs=>some vs
  | _=>none
noncomputable def AO.dict?:AO→Option (List (List Nat × V))
  | .dict l=>some l
  | _=>none
noncomputable def AO.keys?:AO→Option (List (List Nat))
  | .keys l=>some l
  | _=>none
noncomputable def AO.ords?:AO→Option (List Nat)
  | .ords l=>some l
  | _=>none
noncomputable def objAt (s:List AO):V→Option AO
  | .obj i=>s[i]?
  | _=>none
noncomputable def listAt (s:List AO) (v:V):Option (List V):=(objAt s v).bind AO.list?
noncomputable def R.opt {α β:Type} (o:Option α) (f:α→R β):R β:=match o with
  | some a=>f a
  | none=>.fail
noncomputable def AO.truth:AO→Option Bool
  | .list vs=>some (!vs.isEmpty)
  | .deque vs=>some (!vs.isEmpty)
  | _=>none
noncomputable def truth (s:List AO):V→Option Bool
  | .none=>some false
  | .bool b=>some b
  | .int i=>some (i != 0)
  | .str x=>some (!x.isEmpty)
  | .obj i=>s[i]?.bind AO.truth
  | _=>none
noncomputable def flatEq:V→V→Bool
  | .none,.none=>true
  | .bool a,.bool b=>a == b
  | .int a,.int b=>a == b
  | .str a,.str b=>a == b
  | _,_=>false
noncomputable def flatsEq:List V→List V→Bool
  | [],[]=>true
  | a :: as,b :: bs=>flatEq a b&&flatsEq as bs
  | _,_=>false
noncomputable def itemEq:V→V→Bool
  | .tup a,.tup b=>flatsEq a b
  | a,b=>flatEq a b
noncomputable def itemsEq:List V→List V→Bool
  | [],[]=>true
  | a :: as,b :: bs=>itemEq a b&&itemsEq as bs
  | _,_=>false
noncomputable def memStr (x:List Nat):List V→Option Bool
  | []=>some false
  | .str y :: r=>(memStr x r).map fun b=>(y == x) || b
  | _=>none
noncomputable def memInt (x:Int):List V→Option Bool
  | []=>some false
  | .int y :: r=>(memInt x r).map fun b=>(y == x) || b
  | _=>none
noncomputable def memV (vs:List V):V→Option Bool
  | .str x=>memStr x vs
  | .int x=>memInt x vs
  | _=>none
noncomputable def AO.cell?:AO→Option (Option V)
  | .cell v=>some v
  | _=>none
noncomputable def cellAt (s:List AO) (j:Nat):Option V:=s[j]?.bind fun o=>o.cell?.bind id
noncomputable def AO.inst?:AO→Option (Nat × Nat)
  | .inst c d=>some (c,d)
  | _=>none
noncomputable def AO.attrs?:AO→Option (List (Nat × V))
  | .attrs l=>some l
  | _=>none
noncomputable def getLoc (l:List LV) (s:List AO) (i:Nat):R V :=
  R.opt l[i]? fun x=>match x with
  | .val v=>.ok v s
  | .cel j=>R.opt (cellAt s j) fun v=>.ok v s
  | .un=>.fail
noncomputable def setLoc (l:List LV) (s:List AO) (i:Nat) (v:V):RS :=
  match l[i]? with
  | some (.cel j)=>match s[j]? with
    | some (.cell _)=>.next l (s.set j (.cell (some v)))
    | _=>.fail
  | some _=>.next (l.set i (.val v)) s
  | none=>.fail
noncomputable def lookN (a:Nat):List (Nat × V)→Option V
  | []=>none
  | (b,v) :: r=>if a == b then some v else lookN a r
noncomputable def putN (a:Nat) (v:V):List (Nat × V)→List (Nat × V)
  | []=>[(a,v)]
  | (b,w) :: r=>if a == b then (b,v) :: r else (b,w) :: putN a v r
noncomputable def lookS (a:List Nat):List (List Nat × V)→Option V
  | []=>none
  | (b,v) :: r=>if a == b then some v else lookS a r
noncomputable def putS (a:List Nat) (v:V):List (List Nat × V)→List (List Nat × V)
  | []=>[(a,v)]
  | (b,w) :: r=>if a == b then (b,v) :: r else (b,w) :: putS a v r
structure Fn where
  np:Nat
  cells:List Nat
  params:List Nat
  defaults:List V
  body:Sts
structure Tab where
  fns:Nat→Option Fn
  meth:Nat→Nat→Option Nat
  prop:Nat→Nat→Option Nat
  init:Nat→Option Nat
  hd:Bool
noncomputable def BI.loops:BI→Bool
  | .fromkeys=>true
  | _=>false
noncomputable def BM.loops:BM→Bool
  | .translate=>true
  | _=>false
noncomputable def retB (s:List AO) (o:Option Bool):R V:=R.opt o fun b=>.ok (.bool b) s
noncomputable def isB (a b:V):Option Bool :=
  match a.isNone with
  | true=>some b.isNone
  | false=>match b.isNone with
    | true=>some false
    | false=>match a with
      | .bool x=>b.bool?.map fun y=>x == y
      | .str _=>b.bool?.map fun _=>false
      | .typ x=>b.typ?.bind fun y=>if x < 3∧y < 3 then some (x == y) else none
      | _=>none
noncomputable def listsEq (s:List AO) (a b:V):Option Bool:=(listAt s a).bind fun vs=>(listAt s b).bind fun ws=>if itemsEq vs ws then some true else none
noncomputable def eqB (s:List AO) (a b:V):Option Bool:=match a with
  | .int x=>b.int?.bind fun y=>some (x == y)
  | .str x=>match b with
    | .str y=>some (x == y)
    | .none=>some false
    | _=>none
  | .none=>match b with
    | .none=>some true
    | .str _=>some false
    | _=>none
  | .obj i=>listsEq s (.obj i) b
  | _=>none
noncomputable def neB (s:List AO) (a b:V):Option Bool:=match a with
  | .int x=>b.int?.bind fun y=>some (x != y)
  | .str x=>b.str?.bind fun y=>some (x != y)
  | .obj i=>(listsEq s (.obj i) b).bind fun b=>some (!b)
  | _=>none
noncomputable def subB (y:List Nat):List Nat→Option Bool
  | []=>some true
  | c :: r=>match r with
    | []=>some (y.contains c)
    | _ :: _=>none
noncomputable def inB (s:List AO) (a b:V):Option Bool:=match b with
  | .str y=>a.str?.bind (subB y)
  | .tup vs=>memV vs a
  | .obj i=>(listAt s (.obj i)).bind fun vs=>memV vs a
  | _=>none
noncomputable def notInB (s:List AO) (a b:V):Option Bool:=match b with
  | .str y=>a.str?.bind fun x=>(subB y x).map not
  | .obj i=>(listAt s (.obj i)).bind fun vs=>(memV vs a).map not
  | _=>none
noncomputable def twoInts (a b:V) (f:Int→Int→Bool):Option Bool:=a.int?.bind fun x=>b.int?.bind fun y=>some (f x y)
noncomputable def cmpB (s:List AO) (o:Cm) (a b:V):Option Bool:=match o with
  | .is_=>isB a b
  | .isNot=>(isB a b).map not
  | .eq=>eqB s a b
  | .ne=>neB s a b
  | .lt=>twoInts a b fun x y=>x < y
  | .le=>twoInts a b fun x y=>x ≤ y
  | .gt=>twoInts a b fun x y=>x > y
  | .ge=>twoInts a b fun x y=>x ≥ y
  | .in_=>inB s a b
  | .notIn=>notInB s a b
noncomputable def cmpOp (s:List AO) (o:Cm) (a b:V):R V:=retB s (cmpB s o a b)
noncomputable def intOp (s:List AO) (o:Op) (x y:Int):R V:=match o with
  | .add=>.ok (.int (x+y)) s
  | .sub=>.ok (.int (x - y)) s
  | .mul=>if x.natAbs < 2 ^ 60&&y.natAbs < 2 ^ 60 then .ok (.int (x * y)) s else .fail
  | .mod=>if 0 < y then .ok (.int (x % y)) s else .fail
  | .fdiv=>if 0 < y&&y < 2 ^ 60 then .ok (.int (x / y)) s else .fail
  | .pow=>if 2 ≤ x&&x < 128&&1 ≤ y&&y ≤ 100 then .ok (.int (x ^ y.toNat)) s else .fail
noncomputable def listOp (s:List AO) (o:Op) (vs:List V) (b:V):R V:=match o with
  | .add=>R.opt (listAt s b) fun ws=>if vs.length+ws.length ≤ lim then .ok (.obj s.length) (s++[.list (vs++ws)]) else .fail
  | .mul=>R.opt b.int? fun k=>R.opt (one vs) fun v=>if 0 ≤ k&&k ≤ 100000 then .ok (.obj s.length) (s++[.list (List.replicate k.toNat v)]) else .fail
  | _=>.fail
noncomputable def strOp (s:List AO) (o:Op) (x y:List Nat):R V:=match o with
  | .add=>if x.length+y.length ≤ lim then .ok (.str (x++y)) s else .fail
  | _=>.fail
noncomputable def binOp (s:List AO) (o:Op) (a b:V):R V :=
  match a with
  | .int x=>R.opt b.int? fun y=>intOp s o x y
  | .str x=>R.opt b.str? fun y=>strOp s o x y
  | .obj i=>R.opt (listAt s (.obj i)) fun vs=>listOp s o vs b
  | _=>.fail
noncomputable def getAt (s:List AO) (vs:List V) (k:Int):R V:=if 0 ≤ k then R.opt vs[k.toNat]? fun v=>.ok v s else .fail
noncomputable def idxInt (s:List AO) (k:Int):V→R V
  | .str x=>if 0 ≤ k then R.opt x[k.toNat]? fun c=>.ok (.str [c]) s else .fail
  | .tup vs=>getAt s vs k
  | .obj i=>R.opt (listAt s (.obj i)) fun vs=>getAt s vs k
  | _=>.fail
noncomputable def idxOp (s:List AO) (a b:V):R V :=
  match b with
  | .int k=>idxInt s k a
  | .str k=>R.opt ((objAt s a).bind AO.dict?) fun l=>R.opt (lookS k l) fun v=>.ok v s
  | _=>.fail
noncomputable def bound (n:Nat) (d:Nat):V→Option Nat
  | .none=>some d
  | .int i=>if i.natAbs < 2 ^ 60 then some (clip n i) else none
  | _=>none
noncomputable def cutList (s:List AO) (vs:List V) (lo hi:V):R V :=
  R.opt (bound vs.length 0 lo) fun p=>R.opt (bound vs.length vs.length hi) fun q=>.ok (.obj s.length) (s++[.list ((vs.take q).drop p)])
noncomputable def sliceOp (s:List AO) (a lo hi:V):R V :=
  match a with
  | .str x=>R.opt (bound x.length 0 lo) fun p=>R.opt (bound x.length x.length hi) fun q=>.ok (.str ((x.take q).drop p)) s
  | .lst vs=>cutList s vs lo hi
  | .obj i=>R.opt (listAt s (.obj i)) fun vs=>cutList s vs lo hi
  | _=>.fail
noncomputable def strsOf:List V→Option (List (List Nat))
  | []=>some []
  | .str x :: r=>(strsOf r).map (x :: ·)
  | _=>none
noncomputable def addKey (l:List (List Nat)) (c:Nat):List (List Nat):=if l.contains [c] then l else l++[[c]]
noncomputable def addOrd (l:List Nat) (c:Nat):List Nat:=if l.contains c then l else l++[c]
noncomputable def lenOp (s:List AO):V→R V
  | .str x=>.ok (.int x.length) s
  | .obj i=>R.opt (listAt s (.obj i)) fun vs=>.ok (.int vs.length) s
  | _=>.fail
noncomputable def typOp (s:List AO):V→R V
  | .int _=>.ok (.typ 0) s
  | .bool _=>.ok (.typ 1) s
  | .str _=>.ok (.typ 2) s
  | _=>.fail
noncomputable def bi1 (s:List AO) (b:BI) (v:V):R V:=match b with
  | .len=>lenOp s v
  | .int=>R.opt v.int? fun i=>.ok (.int i) s
  | .str=>R.opt v.exc? fun x=>.ok (.str x) s
  | .isStr=>R.opt v.str? fun _=>.ok (.bool true) s
  | .typ=>typOp s v
  | .range=>R.opt v.int? fun n=>if 0 ≤ n&&n ≤ 100000 then .ok (.rng n) s else .fail
  | .deque=>.fail
  | .fromkeys=>R.opt v.str? fun x=>.ok (.obj s.length) (s++[.keys (x.foldl addKey [])])
noncomputable def biOp (s:List AO) (b:BI) (as:List V):R V :=
  match as with
  | []=>match b with
    | .deque=>.ok (.obj s.length) (s++[.deque []])
    | _=>.fail
  | v :: r=>match r with
    | []=>bi1 s b v
    | _ :: _=>.fail
noncomputable def findOp (s:List AO) (x:List Nat):List V→R V
  | []=>.fail
  | a :: as=>R.opt a.chr? fun c=>match as with
    | []=>.ok (.int (findC c x 0 x.length)) s
    | b :: as=>R.opt b.int? fun p=>match as with
      | []=>if 0 ≤ p&&p < 2 ^ 60 then .ok (.int (findC c x p.toNat x.length)) s else .fail
      | d :: as=>R.opt d.int? fun q=>match as with
        | []=>if 0 ≤ p&&p ≤ q&&q ≤ x.length&&x.length ≤ lim then .ok (.int (findC c x p.toNat q.toNat)) s else .fail
        | _ :: _=>.fail
noncomputable def appOp (s:List AO) (i:Nat) (v:V):AO→R V
  | .list vs=>if vs.length+1 ≤ lim then .ok .none (s.set i (.list (vs++[v]))) else .fail
  | .deque vs=>if vs.length+1 ≤ 1000 then .ok .none (s.set i (.deque (vs++[v]))) else .fail
  | _=>.fail
noncomputable def V.obj?:V→Option Nat
  | .obj i=>some i
  | _=>Option.none
noncomputable def bmOp (s:List AO) (m:BM) (a:V) (as:List V):R V :=
  match m with
  | .find=>R.opt a.str? fun x=>findOp s x as
  | .join=>R.opt a.str? fun x=>R.opt (one as) fun v=>if x.isEmpty then R.opt (listAt s v) fun vs=>R.opt (strsOf vs) fun l=>if l.flatten.length ≤ lim then .ok (.str l.flatten) s else .fail else .fail
  | .append=>R.opt (one as) fun v=>R.opt a.obj? fun i=>R.opt s[i]? fun o=>appOp s i v o
  | .pop=>match as with
    | []=>R.opt a.obj? fun i=>R.opt (s[i]?.bind AO.deque?) fun vs=>R.opt vs.getLast? fun v=>.ok v (s.set i (.deque vs.dropLast))
    | _ :: _=>.fail
  | .maketrans=>R.opt a.str? fun _=>R.opt (one as) fun v=>R.opt ((objAt s v).bind AO.keys?) fun l=>if l.all (fun k=>k.length == 1)&&decide (l.length ≤ lim) then .ok (.obj s.length) (s++[.ords (l.flatten.foldl addOrd [])]) else .fail
  | .translate=>R.opt a.str? fun x=>R.opt (one as) fun v=>R.opt ((objAt s v).bind AO.ords?) fun l=>.ok (.str (x.filter fun c=>!l.contains c)) s
noncomputable def AO.kindK:AO→Option Nat
  | .list _=>some 0
  | .deque _=>some 1
  | _=>none
noncomputable def recvK (s:List AO) (m:BM) (v:V):Option Nat :=
  match m with
  | .append=>(objAt s v).bind AO.kindK
  | .pop=>((objAt s v).bind AO.deque?).bind fun _=>some 1
  | _=>v.str?.bind fun _=>some 2
noncomputable def V.flat:V→Bool
  | .none=>true
  | .bool _=>true
  | .int _=>true
  | .str _=>true
  | _=>false
noncomputable def freshLoc (np:Nat) (cells:List Nat) (n:Nat):List LV :=
  (List.range np).map fun i=>match cells.findIdx? (· == i) with
    | some j=>.cel (n+j)
    | none=>.un
@[reducible] noncomputable def RS.seq (r:RS) (f:List LV→List AO→RS):RS :=
  match r with
  | .next l s=>f l s
  | r=>r
noncomputable def storeAll:List Nat→List V→List LV→List AO→RS
  | [],vs,l,s=>match vs with
    | []=>.next l s
    | _ :: _=>.fail
  | i :: is,vs,l,s=>match vs with
    | []=>.fail
    | v :: vs=>(setLoc l s i v).seq (storeAll is vs)
noncomputable def bindArgs (f:Fn) (as:List V):Option (List V) :=
  if as.length ≤ f.params.length&&f.params.length ≤ as.length+f.defaults.length then
    some (as++f.defaults.drop (f.defaults.length - (f.params.length - as.length)))
  else none
mutual
noncomputable def V.low (n:Nat):V→Bool
  | .obj i=>i < n
  | .tup vs=>lows n vs
  | .lst vs=>lows n vs
  | _=>true
noncomputable def lows (n:Nat):List V→Bool
  | []=>true
  | v :: vs=>V.low n v&&lows n vs
end
noncomputable def AO.low (n:Nat):AO→Bool
  | .list vs=>lows n vs
  | .inst _ d=>d < n
  | .attrs l=>lows n (l.map (·.2))
  | .deque vs=>lows n vs
  | .keys _=>true
  | .ords _=>true
  | .cell v=>match v with | some v=>v.low n | none=>true
  | .dict l=>lows n (l.map (·.2))
noncomputable def aoLows (n:Nat):List AO→Bool
  | []=>true
  | o :: r=>o.low n&&aoLows n r
noncomputable def leave (n:Nat) (v:V) (s:List AO):R V :=
  if s.length == n then .ok v s
  else if aoLows n (s.take n) then match v with
    | .obj i=>if i < n then .ok v (s.take n) else match s[i]? with
      | some (.list vs)=>if lows n vs then .ok (.obj n) (s.take n++[.list vs]) else .ok v s
      | _=>.ok v s
    | v=>if v.low n then .ok v (s.take n) else .ok v s
  else .ok v s
noncomputable def leaveX (n:Nat) (s:List AO):List AO:=if s.length == n then s else if aoLows n (s.take n) then s.take n else s
noncomputable def LV.trim (n:Nat):LV→LV
  | .val v=>if v.low n then .val v else .un
  | .cel i=>.cel i
  | .un=>.un
noncomputable def celsLow (n:Nat):List LV→Bool
  | []=>true
  | .cel i :: r=>decide (i < n)&&celsLow n r
  | _ :: r=>celsLow n r
noncomputable def AO.trim (n:Nat):AO→AO
  | .cell (some v)=>if v.low n then .cell (some v) else .cell none
  | o=>o
noncomputable def trim (n:Nat) (l:List LV) (s:List AO):List LV × List AO :=
  if s.length == n then (l,s)
  else if aoLows n ((s.take n).map (AO.trim n))&&celsLow n l then (l.map (LV.trim n),(s.take n).map (AO.trim n)) else (l,s)
inductive Src where
  | fixed (vs:List V)
  | live (i:Nat)
noncomputable def srcOf (s:List AO):V→Option Src
  | .str x=>some (.fixed (x.map fun c=>.str [c]))
  | .rng n=>if 0 ≤ n&&n ≤ 100000 then some (.fixed ((List.range n.toNat).map fun (i:Nat)=>.int i)) else none
  | .tup vs=>some (.fixed vs)
  | .obj i=>match s[i]? with
    | some (.list _)=>some (.live i)
    | _=>none
  | _=>none
noncomputable def Src.at (s:List AO) (j:Nat):Src→Option (Option V)
  | .fixed vs=>some vs[j]?
  | .live i=>match s[i]? with
    | some (.list vs)=>some vs[j]?
    | _=>none
@[reducible] noncomputable def fin (tst:Bool) (r:R V):R V :=
  match tst with
  | false=>r
  | true=>r.bind fun v s=>match truth s v with
    | some b=>.ok (.bool b) s
    | none=>.fail
@[reducible] noncomputable def R.bool (r:R V) (f:Bool→List AO→R V):R V :=
  r.bind fun v s=>match v with
    | .bool b=>f b s
    | _=>.fail
noncomputable def R.only {α β:Type} (r:R α) (f:α→List AO→R β):R β:=match r with
  | .ok a s=>f a s
  | _=>.fail
noncomputable def RS.run {β:Type} (r:RS) (f:List LV→List AO→R β):R β:=match r with
  | .next l s=>f l s
  | _=>.fail
noncomputable def RS.opt {α:Type} (o:Option α) (f:α→RS):RS:=match o with
  | some a=>f a
  | none=>.fail
noncomputable def compStep (n:Nat) (r:Option V) (s:List AO):Option (List AO):=(s[n]?.bind AO.list?).bind fun vs=>match r with
  | some v=>if (v.low (n+1)&&aoLows (n+1) (s.take (n+1))&&decide (vs.length+1 ≤ lim))=true then some ((s.take (n+1)).set n (.list (vs++[v]))) else none
  | none=>if aoLows (n+1) (s.take (n+1))=true then some (s.take (n+1)) else none
noncomputable def compTurns (src:Src) (n:Nat) (f:V→List AO→R (Option V)):Nat→Nat→List AO→R V
  | 0,_,_=>.fail
  | k+1,j,s=>R.opt (src.at s j) fun ov=>match ov with
    | none=>.ok (.obj n) s
    | some v=>(f v s).only fun r s=>R.opt (compStep n r s) fun s=>compTurns src n f k (j+1) s
noncomputable def compLoc (l:List LV):List (Option Nat)→Option (List LV)
  | []=>some []
  | none :: r=>(compLoc l r).map (.un :: ·)
  | some i :: r=>match l[i]? with
    | some (.cel j)=>(compLoc l r).map (.cel j :: ·)
    | _=>none
noncomputable def initArgs (np:Nat) (dflts:List V) (vs:List V) (ks:List Nat):List (Option V) :=
  let given:=vs.take (vs.length - ks.length)
  let kw:=vs.drop (vs.length - ks.length)
  (List.range np).map fun i =>
    match given[i]? with
    | some v=>some v
    | none=>match ks.findIdx? (· == i) with
      | some j=>kw[j]?
      | none=>dflts[i]?
section
variable (T:Tab) (cf:Nat→List V→List AO→R V)
noncomputable def R.okOnly (r:R V):R V:=match r with
  | .ok v s=>.ok v s
  | _=>.fail
noncomputable def attrOf (a:Nat) (v:V) (s:List AO):R V:=R.opt (objAt s v) fun o=>R.opt o.inst? fun cd=>match T.prop cd.1 a with
  | some f=>(cf f [v] s).okOnly
  | none=>match T.meth cd.1 a with
    | none=>R.opt (s[cd.2]?.bind AO.attrs?) fun as=>R.opt (lookN a as) fun v=>.ok v s
    | some _=>.fail
noncomputable def methOf (m:Nat) (v:V) (s:List AO):Option Nat:=(objAt s v).bind fun o=>o.inst?.bind fun cd=>(T.meth cd.1 m).bind fun f=>(s[cd.2]?.bind AO.attrs?).bind fun al=>match lookN m al with
  | some _=>none
  | none=>some f
noncomputable def R.noneOnly (r:R V) (x:V):R V:=match r with
  | .ok v s=>if v.isNone=true then .ok x s else .fail
  | _=>.fail
noncomputable def newOf (c:Nat) (ks:List Nat) (vs:List V) (s:List AO):R V:=R.opt (T.init c) fun f=>R.opt (T.fns f) fun fn =>
  if (initArgs (fn.params.length - 1) fn.defaults vs ks).all (·.isSome)=true then
    (cf f (.obj (s.length+1) :: (initArgs (fn.params.length - 1) fn.defaults vs ks).filterMap id) (s++[.attrs [],.inst c s.length])).noneOnly (.obj (s.length+1))
  else .fail
end
section
variable (T:Tab) (cf:Nat→List V→List AO→R V) (K:Nat)
mutual
noncomputable def evalE (l:List LV) (tst:Bool):Ex→List AO→R V
  | .bad,_=>.fail
  | .lit v,s=>fin tst (.ok v s)
  | .loc i,s=>fin tst (getLoc l s i)
  | .attr e a,s=>fin tst <| (evalE l false e s).bind fun v s=>attrOf T cf a v s
  | .callF f as,s=>fin tst <| (evalEs l as s).bind fun vs s=>cf f vs s
  | .callM e m as,s=>fin tst <| (evalE l false e s).bind fun v s=>R.opt (methOf T m v s) fun f=>(evalEs l as s).bind fun vs s=>cf f (v :: vs) s
  | .newC c as ks,s=>fin tst <| (evalEs l as s).bind fun vs s=>newOf T cf c ks vs s
  | .bi b as,s=>fin tst <| (evalEs l as s).bind fun vs s=>match T.hd&&b.loops with
    | true=>.fail
    | false=>biOp s b vs
  | .bm m e as,s=>fin tst <| (evalE l false e s).bind fun v s=>R.opt (recvK s m v) fun k=>(evalEs l as s).bind fun vs s=>if (!(T.hd&&m.loops)&&recvK s m v == some k)=true then bmOp s m v vs else .fail
  | .cmp o a b,s=>(evalE l false a s).bind fun x s=>(evalE l false b s).bind fun y s=>cmpOp s o x y
  | .boolop isAnd es,s=>evalBool l tst isAnd es s
  | .not_ e,s=>match tst with
    | true=>(evalE l true e s).bool fun b s=>.ok (.bool (!b)) s
    | false=>(fin true (evalE l false e s)).bool fun b s=>.ok (.bool (!b)) s
  | .neg e,s=>fin tst <| (evalE l false e s).bind fun v s=>match v with
    | .int i=>.ok (.int (-i)) s
    | _=>.fail
  | .bin o a b,s=>fin tst <| (evalE l false a s).bind fun x s=>(evalE l false b s).bind fun y s=>binOp s o x y
  | .ife c a b,s=>(evalE l true c s).bool fun t s=>if t then evalE l tst a s else evalE l tst b s
  | .idx a b,s=>fin tst <| (evalE l false a s).bind fun x s=>(evalE l false b s).bind fun y s=>idxOp s x y
  | .slice a lo hi,s=>fin tst <| (evalE l false a s).bind fun x s=>(evalE l false lo s).bind fun p s=>(evalE l false hi s).bind fun q s=>sliceOp s x p q
  | .list es,s=>fin tst <| (evalEs l es s).bind fun vs s=>if vs.length ≤ lim then .ok (.obj s.length) (s++[.list vs]) else .fail
  | .tup es,s=>fin tst <| (evalEs l es s).bind fun vs s=>if vs.length ≤ lim then .ok (.tup vs) s else .fail
  | .dict ks vs,s=>fin tst <| (evalEs l ks s).bind fun ks s=>(evalEs l vs s).bind fun vs s=>match ks,vs with
    | [],[]=>.ok (.obj s.length) (s++[.dict []])
    | [.str k],[v]=>.ok (.obj s.length) (s++[.dict [(k,v)]])
    | _,_=>.fail
  | .comp it fr t cs e,s=>R.opt (compLoc l fr) fun l'=>fin tst <| (evalE l false it s).bind fun v s=>R.opt (srcOf s v) fun src=>compTurns src s.length (fun v s=>(setLoc l' s t v).run fun l'' s=>(condsE l'' cs s).bind fun b s=>if b then (evalE l'' false e s).bind fun v s=>.ok (some v) s else .ok none s) K 0 (s++[.list []])
noncomputable def evalEs (l:List LV):Exs→List AO→R (List V)
  | .nil,s=>.ok [] s
  | .cons e es,s=>(evalE l false e s).bind fun v s=>(evalEs l es s).bind fun vs s=>.ok (v :: vs) s
noncomputable def evalBool (l:List LV) (tst:Bool) (isAnd:Bool):Exs→List AO→R V
  | .nil,s=>match tst with
    | true=>.ok (.bool isAnd) s
    | false=>.fail
  | .cons e es,s=>match tst,es with
    | false,.nil=>evalE l false e s
    | false,.cons _ _=>(evalE l false e s).bind fun v s=>match truth s v with
      | some b=>if b == isAnd then evalBool l false isAnd es s else .ok v s
      | none=>.fail
    | true,_=>(evalE l true e s).bool fun b s=>if b == isAnd then evalBool l true isAnd es s else .ok (.bool b) s
noncomputable def condsE (l:List LV):Exs→List AO→R Bool
  | .nil,s=>.ok true s
  | .cons e es,s=>(evalE l true e s).bind fun v s=>match v with
    | .bool true=>condsE l es s
    | .bool false=>.ok false s
    | _=>.fail
end
end
@[reducible] noncomputable def R.st (r:R V) (l:List LV) (f:V→List AO→RS):RS :=
  match r with
  | .ok v s=>f v s
  | .exc m s=>.exc 1 m l s
  | .fail=>.fail
noncomputable def RS.nohd (b:Bool) (r:RS):RS:=match b with
  | true=>.fail
  | false=>r
noncomputable def RS.handled (i:Nat) (r:RS):RS:=match r with
  | .next l s=>.next (l.set i .un) s
  | .brk l s=>.brk (l.set i .un) s
  | _=>.fail
noncomputable def tryRes (i:Nat) (gH:List LV→List AO→RS) (r:RS):RS:=match r with
  | .exc g m l s=>if (g == 1&&decide (m.length ≤ lim))=true then (setLoc l s i (.exc m)).seq fun l s=>(gH l s).handled i else .fail
  | .next l s=>.next l s
  | .brk l s=>.brk l s
  | .cont l s=>.cont l s
  | .ret v s=>.ret v s
  | .fail=>.fail
noncomputable def endCall (n:Nat) (r:RS):R V:=match r with
  | .next _ s=>leave n .none s
  | .ret v s=>leave n v s
  | .exc g m _ s=>if (g == 0)=true then .fail else .exc m (leaveX n s)
  | _=>.fail
noncomputable def slotAt (T:Tab) (o:V) (a:Nat) (s:List AO):Option (Nat × List (Nat × V)):=(objAt s o).bind fun ob=>ob.inst?.bind fun cd=>match T.prop cd.1 a with
  | some _=>none
  | none=>match T.meth cd.1 a with
    | some _=>none
    | none=>(s[cd.2]?.bind AO.attrs?).bind fun as=>some (cd.2,as)
noncomputable def storeAttr (T:Tab) (o:V) (a:Nat) (v:V) (l:List LV) (s:List AO):RS:=RS.opt (slotAt T o a s) fun da=>if da.2.length < 100 then .next l (s.set da.1 (.attrs (putN a v da.2))) else .fail
noncomputable def loadAttr (T:Tab) (o:V) (a:Nat) (s:List AO):Option V:=(slotAt T o a s).bind fun da=>lookN a da.2
noncomputable def storeItem (o k v:V) (l:List LV) (s:List AO):RS:=RS.opt o.obj? fun i=>RS.opt (s[i]?.bind AO.dict?) fun es=>RS.opt k.str? fun x=>if es.length < 100 then .next l (s.set i (.dict (putS x v es))) else .fail
noncomputable def loopRes (again:List LV→List AO→RS) (n:Nat) (x:Bool) (r:RS):RS:=match r with
  | .next l s=>again (trim n l s).1 (trim n l s).2
  | .cont l s=>again (trim n l s).1 (trim n l s).2
  | .brk l s=>.next l s
  | .ret v s=>.ret v s
  | .exc g m l s=>if (x&&g == 0)=true then .exc 2 m l s else .fail
  | .fail=>.fail
noncomputable def RS.cond (r:R V) (f g:List AO→RS):RS:=match r with
  | .ok v s=>RS.opt v.bool? fun b=>match b with
    | true=>f s
    | false=>g s
  | _=>.fail
noncomputable def whileTurns (c:List LV→List AO→R V) (f:List LV→List AO→RS):Nat→List LV→List AO→RS
  | 0,_,_=>.fail
  | k+1,l,s=>RS.cond (c l s) (fun s=>loopRes (whileTurns c f k) s.length true (f l s)) fun s=>.next l s
noncomputable def forTurns (src:Src) (i:Nat) (f:List LV→List AO→RS):Nat→Nat→List LV→List AO→RS
  | 0,_,_,_=>.fail
  | k+1,j,l,s=>RS.opt (src.at s j) fun ov=>match ov with
    | none=>.next l s
    | some v=>(setLoc l s i v).seq fun l s=>loopRes (forTurns src i f k (j+1)) s.length false (f l s)
mutual
noncomputable def execS (T:Tab) (cf:Nat→List V→List AO→R V) (K:Nat):St→List LV→List AO→RS
  | .bad,_,_=>.fail
  | .pass,l,s=>.next l s
  | .expr e,l,s=>(evalE T cf K l false e s).st l fun v s=>match v.flat with
    | true=>.next l s
    | false=>.fail
  | .asg i e,l,s=>(evalE T cf K l false e s).st l fun v s=>setLoc l s i v
  | .asgA o a e,l,s=>(evalE T cf K l false e s).st l fun v s=>(evalE T cf K l false o s).st l fun o s=>storeAttr T o a v l s
  | .asgI o k e,l,s=>(evalE T cf K l false e s).st l fun v s=>(evalE T cf K l false o s).st l fun o s=>(evalE T cf K l false k s).st l fun k s=>storeItem o k v l s
  | .unp is e,l,s=>RS.nohd T.hd ((evalE T cf K l false e s).st l fun v s=>RS.opt v.tup? fun vs=>if (vs.length == is.length)=true then storeAll is vs l s else .fail)
  | .aug i o e,l,s=>(getLoc l s i).st l fun a s=>(evalE T cf K l false e s).st l fun b s=>match a.isObj with
    | true=>.fail
    | false=>(binOp s o a b).st l fun v s=>setLoc l s i v
  | .augA x a o e,l,s=>(evalE T cf K l false x s).st l fun x s=>RS.opt (loadAttr T x a s) fun v=>match v.isObj with
    | true=>.fail
    | false=>(evalE T cf K l false e s).st l fun b s=>(binOp s o v b).st l fun v s=>storeAttr T x a v l s
  | .if_ c a b,l,s=>(evalE T cf K l true c s).st l fun t s=>match t with
    | .bool true=>execs T cf K a l s
    | .bool false=>execs T cf K b l s
    | _=>.fail
  | .while_ c b,l,s=>whileTurns (fun l s=>evalE T cf K l true c s) (fun l s=>execs T cf K b l s) K l s
  | .for_ i it b,l,s=>(evalE T cf K l false it s).st l fun v s=>RS.opt (srcOf s v) fun src=>forTurns src i (fun l s=>execs T cf K b l s) K 0 l s
  | .ret e,l,s=>(evalE T cf K l false e s).st l fun v s=>.ret v s
  | .brk,l,s=>.brk l s
  | .cont,l,s=>.cont l s
  | .raise_ m,l,s=>RS.nohd T.hd (.exc 0 m l s)
  | .try_ b i h,l,s=>RS.nohd T.hd (tryRes i (fun l s=>execs { T with hd:=true } (fun _ _ _=>.fail) 0 h l s) (execs T cf K b l s))
noncomputable def execs (T:Tab) (cf:Nat→List V→List AO→R V) (K:Nat):Sts→List LV→List AO→RS
  | .nil,l,s=>.next l s
  | .cons x xs,l,s=>(execS T cf K x l s).seq fun l s=>execs T cf K xs l s
end
noncomputable def callBody (T:Tab) (K:Nat) (cf:Nat→List V→List AO→R V) (f:Fn) (as:List V) (s:List AO):R V :=
  R.opt (bindArgs f as) fun vs=>(storeAll f.params vs (freshLoc f.np f.cells s.length) (s++f.cells.map fun _=>.cell none)).run fun l s'=>endCall s.length (execs T cf K f.body l s')
noncomputable def callF (T:Tab) (K:Nat):Nat→Nat→List V→List AO→R V
  | 0,_,_,_=>.fail
  | d+1,f,as,s=>R.opt (T.fns f) fun fn=>callBody T K (callF T K d) fn as s
structure Nm where
  an:List Str
  fn:List Str
  cn:List Str
noncomputable def posOf (x:Str):List Str→Nat→Option Nat
  | [],_=>none
  | y :: r,k=>if x == y then some k else posOf x r (k+1)
noncomputable def slotOf (x:Str):List (Str × NameKind)→Nat→Option (Nat × NameKind)
  | [],_=>none
  | (y,k) :: r,n=>if x == y then some (n,k) else slotOf x r (n+1)
noncomputable def isLocal:NameKind→Bool
  | .local=>true
  | .cell=>true
  | .free=>true
  | _=>false
noncomputable def isOwn:NameKind→Bool
  | .local=>true
  | .cell=>true
  | _=>false
noncomputable def opOf:Operator→Option Op
  | .Add=>some .add
  | .Sub=>some .sub
  | .Mult=>some .mul
  | .Mod=>some .mod
  | .FloorDiv=>some .fdiv
  | .Pow=>some .pow
  | _=>none
noncomputable def cmOf:CmpOp→Cm
  | .Eq=>.eq | .NotEq=>.ne | .Lt=>.lt | .LtE=>.le | .Gt=>.gt | .GtE=>.ge
  | .Is=>.is_ | .IsNot=>.isNot | .In=>.in_ | .NotIn=>.notIn
noncomputable def biOf (x:Str):Option BI :=
  if x == ("len":Str) then some .len
  else if x == ("int":Str) then some .int else if x == ("str":Str) then some .str else if x == ("type":Str) then some .typ
  else if x == ("range":Str) then some .range else none
noncomputable def bmOf (x:Str):Option BM :=
  if x == ("find":Str) then some .find else if x == ("join":Str) then some .join
  else if x == ("append":Str) then some .append else if x == ("pop":Str) then some .pop else if x == ("maketrans":Str) then some .maketrans
  else if x == ("translate":Str) then some .translate else none
noncomputable def typOf (x:Str):Option Nat :=
  if x == ("int":Str) then some 0 else if x == ("bool":Str) then some 1 else if x == ("str":Str) then some 2 else none
noncomputable def okName (x:Str):Bool:=x != ("__debug__":Str)&&x != ("__classdict__":Str)
noncomputable def bareCall:Expr→Bool
  | .Call (.Name _ _) [] [] _=>true
  | _=>false
noncomputable def isStar:Expr→Bool
  | .Starred _ _=>true
  | _=>false
noncomputable def anyStar (l:List Expr):Bool:=l.any isStar
noncomputable abbrev Names:=List (Str × NameKind)
noncomputable def glob (ns:Names) (x:Str):Bool:=match slotOf x ns 0 with
  | some (_,.globalImplicit)=>true
  | _=>false
noncomputable def constV:Const→Option V
  | .none=>some .none
  | .bool b=>some (.bool b)
  | .int i=>some (.int i)
  | .str s=>if s.cps.toList.length ≤ lim then some (.str s.cps.toList) else none
  | _=>none
noncomputable def freeSlots (ns:Names) (cs:Names):List (Option Nat) :=
  cs.map fun (x,k)=>match k with
    | .free=>(slotOf x ns 0).map (·.1)
    | _=>none
noncomputable def noDup:List Str→Bool
  | []=>true
  | x :: r=>!r.contains x&&noDup r
noncomputable def isSet:Expr→Bool
  | .Set ..=>true
  | _=>false
noncomputable def freeKind (ns:Names) (x:Str):Bool:=match slotOf x ns 0 with
  | some (_,.cell)=>true
  | some (_,.free)=>true
  | _=>false
noncomputable def compOk (ns:Names) (sc:Scope):Bool :=
  sc.kind == .function&&noDup (sc.names.map (·.1))&&sc.names.all fun (x,k)=>k != .cell&&(k != .free || freeKind ns x)
noncomputable def exsMap (f:Expr→Ex):List Expr→Exs
  | []=>.nil
  | e :: es=>.cons (f e) (exsMap f es)
noncomputable def optMap (f:Expr→Ex):Option Expr→Ex
  | none=>.lit .none
  | some e=>f e
noncomputable def Ex.opt {α:Type} (o:Option α) (f:α→Ex):Ex:=match o with
  | some a=>f a
  | none=>.bad
noncomputable def Ex.iff (b:Bool) (x:Ex):Ex:=match b with
  | true=>x
  | false=>.bad
noncomputable def nameOf:Expr→Option Str
  | .Name x _=>some x
  | _=>none
noncomputable def strC:Expr→Option Str
  | .Constant c _ _=>match c with
    | .str x=>some x
    | _=>none
  | _=>none
noncomputable def intC:Expr→Option Int
  | .Constant c _ _=>match c with
    | .int x=>some x
    | _=>none
  | _=>none
noncomputable def sliceOf:Expr→Option (Option Expr × Option Expr)
  | .Slice lo hi st _=>match st with
    | none=>some (lo,hi)
    | some _=>none
  | _=>none
noncomputable def isLoc:NameKind→Bool
  | .local=>true
  | _=>false
noncomputable def nameE (ns:Names) (x:Str):Ex:=Ex.opt (slotOf x ns 0) fun p=>Ex.iff (okName x) (match isLocal p.2 with
  | true=>.loc p.1
  | false=>Ex.iff (glob ns x) (Ex.opt (typOf x) fun t=>.lit (.typ t)))
noncomputable def callA (N:Nm) (ns:Names) (r:Expr→Ex) (e:Expr) (m:Str) (as:List Expr):Ex:=match bmOf m with
  | some b=>.bm b (r e) (exsMap r as)
  | none=>match m == ("fromkeys":Str) with
    | true=>Ex.opt (nameOf e) fun x=>Ex.opt (one as) fun a=>Ex.iff (x == ("dict":Str)&&glob ns x) (.bi .fromkeys (.cons (r a) .nil))
    | false=>Ex.opt (posOf m N.an 0) fun i=>.callM (r e) i (exsMap r as)
noncomputable def isiArg (ns:Names):List Expr→Option Expr
  | []=>none
  | a :: r=>(one r).bind fun b=>(nameOf b).bind fun y=>if (y == ("str":Str)&&glob ns y)=true then some a else none
noncomputable def callN (N:Nm) (ns:Names) (r:Expr→Ex) (x:Str) (as:List Expr):Ex:=match biOf x with
  | some b=>.bi b (exsMap r as)
  | none=>match x == ("isinstance":Str) with
    | true=>Ex.opt (isiArg ns as) fun a=>.bi .isStr (.cons (r a) .nil)
    | false=>match x == ("deque":Str) with
      | true=>.bi .deque (exsMap r as)
      | false=>match posOf x N.fn 0 with
        | some f=>.callF f (exsMap r as)
        | none=>Ex.opt (posOf x N.cn 0) fun k=>Ex.iff (k == 1&&as.length == 1) (.newC 1 (exsMap r (as++[])) [])
noncomputable def callK (N:Nm) (r:Expr→Ex) (x:Str) (as:List Expr) (ks:List Keyword):Ex :=
  Ex.iff (ks.all (·.arg.isSome)&&ks.filterMap (·.arg) == (["posix","punctuation_chars"]:List Str)&&ks.length == 2&&as.length == 1)
    (Ex.opt (posOf x N.cn 0) fun k=>Ex.iff (k == 0) (.newC 0 (exsMap r (as++ks.map (·.value))) [2,3]))
noncomputable def callE (N:Nm) (ns:Names) (r:Expr→Ex) (as:List Expr) (ks:List Keyword) (pos:Pos):Expr→Ex
  | .Attribute e m ap=>match ks with
    | []=>Ex.iff (!bareCall e&&!anyStar as&&decide (as.length ≤ 20)&&ap.endLine == pos.line) (callA N ns r e m as)
    | _ :: _=>.bad
  | .Name x _=>Ex.iff (glob ns x&&okName x&&!anyStar as) (match ks with
    | []=>callN N ns r x as
    | k :: ks=>callK N r x as (k :: ks))
  | _=>.bad
noncomputable def dictE (ks:List (Option Expr)) (vs:List Expr):Ex:=match ks with
  | []=>match vs with
    | []=>.dict .nil .nil
    | _ :: _=>.bad
  | k :: r=>match r with
    | []=>Ex.opt k fun k=>Ex.opt (strC k) fun x=>Ex.opt (one vs) fun v=>Ex.opt (intC v) fun i=>Ex.iff (decide (x.cps.toList.length ≤ lim)) (.dict (.cons (.lit (.str x.cps.toList)) .nil) (.cons (.lit (.int i)) .nil))
    | _ :: _=>.bad
noncomputable def compE (ns:Names) (r:Expr→Ex) (g:Expr→Ex) (e:Expr) (gs:List Comprehension) (sc:Scope):Ex :=
  Ex.opt (one gs) fun c=>Ex.opt (nameOf c.target) fun x=>Ex.iff (c.is_async == 0) (Ex.opt (slotOf x sc.names 0) fun p =>
    Ex.iff (isLoc p.2&&compOk ns sc&&!isSet c.iter) (.comp (r c.iter) (freeSlots ns sc.names) p.1 (exsMap g c.ifs) (g e)))
noncomputable def unE (r:Expr→Ex) (e:Expr):UnaryOp→Ex
  | .Not=>.not_ (r e)
  | .USub=>.neg (r e)
  | _=>.bad
noncomputable def cE (N:Nm):Nat→Names→Expr→Ex
  | 0,_,_=>.bad
  | n+1,ns,e=>match e with
    | .Constant c _ _=>Ex.opt (constV c) .lit
    | .Name x _=>nameE ns x
    | .Attribute e a _=>Ex.opt (posOf a N.an 0) fun i=>Ex.iff (!bareCall e) (.attr (cE N n ns e) i)
    | .Call f as ks pos=>callE N ns (cE N n ns) as ks pos f
    | .Compare a os bs _=>Ex.opt (one os) fun o=>Ex.opt (one bs) fun b=>Ex.iff (!behindInMarks o b) (.cmp (cmOf o) (cE N n ns a) (cE N n ns b))
    | .BoolOp o es _=>.boolop (o == .And) (exsMap (cE N n ns) es)
    | .UnaryOp o e _=>unE (cE N n ns) e o
    | .BinOp a o b _=>Ex.opt (opOf o) fun o=>.bin o (cE N n ns a) (cE N n ns b)
    | .IfExp c a b _=>.ife (cE N n ns c) (cE N n ns a) (cE N n ns b)
    | .Subscript a i _=>match sliceOf i with
      | some p=>.slice (cE N n ns a) (optMap (cE N n ns) p.1) (optMap (cE N n ns) p.2)
      | none=>.idx (cE N n ns a) (cE N n ns i)
    | .List es _=>Ex.iff (!anyStar es) (.list (exsMap (cE N n ns) es))
    | .Tuple es _ _=>Ex.iff (!anyStar es) (.tup (exsMap (cE N n ns) es))
    | .Dict ks vs _=>dictE ks vs
    | .ListComp e gs sc _=>compE ns (cE N n ns) (cE N n sc.names) e gs sc
    | _=>.bad
noncomputable def isComp:Expr→Bool
  | .ListComp ..=>true
  | .SetComp ..=>true
  | .DictComp ..=>true
  | _=>false
noncomputable def isCall:Expr→Bool
  | .Call ..=>true
  | _=>false
noncomputable def slotsOf (ns:Names):List Expr→Option (List Nat)
  | []=>some []
  | e :: r=>(nameOf e).bind fun x=>(slotOf x ns 0).bind fun p=>if isOwn p.2=true then (slotsOf ns r).map (p.1 :: ·) else none
noncomputable def stsMap (f:Stmt→St):List Stmt→Sts
  | []=>.nil
  | s :: ss=>.cons (f s) (stsMap f ss)
noncomputable def St.opt {α:Type} (o:Option α) (f:α→St):St:=match o with
  | some a=>f a
  | none=>.bad
noncomputable def St.iff (b:Bool) (x:St):St:=match b with
  | true=>x
  | false=>.bad
noncomputable def asgE (N:Nm) (ns:Names) (r:Expr→Ex) (e:Expr):Expr→St
  | .Name x _=>St.opt (slotOf x ns 0) fun p=>St.iff (isOwn p.2&&!isComp e) (.asg p.1 (r e))
  | .Attribute o a _=>St.opt (posOf a N.an 0) fun i=>St.iff (!isComp e) (.asgA (r o) i (r e))
  | .Subscript o k _=>St.iff (!isComp e) (.asgI (r o) (r k) (r e))
  | .Tuple es _ _=>St.iff (isCall e) (St.opt (slotsOf ns es) fun l=>.unp l (r e))
  | _=>.bad
noncomputable def augE (N:Nm) (ns:Names) (r:Expr→Ex) (o:Op) (e:Expr):Expr→St
  | .Name x _=>St.opt (slotOf x ns 0) fun p=>St.iff (isOwn p.2&&okName x) (.aug p.1 o (r e))
  | .Attribute x a _=>St.opt (posOf a N.an 0) fun i=>.augA (r x) i o (r e)
  | _=>.bad
noncomputable def veArg (ns:Names):Expr→Option Str
  | .Call f as ks _=>(nameOf f).bind fun x=>if (x == ("ValueError":Str)&&glob ns x&&ks.isEmpty)=true then (one as).bind strC else none
  | _=>none
noncomputable def isVe (ns:Names) (e:Expr):Bool:=match nameOf e with
  | some x=>x == ("ValueError":Str)&&glob ns x
  | none=>false
noncomputable def tryE (ns:Names) (g:List Stmt→Sts) (b:List Stmt):ExceptHandler→St
  | .ExceptHandler t y h _=>St.opt t fun t=>St.opt y fun y=>St.opt (slotOf y ns 0) fun p=>St.iff (isLoc p.2&&isVe ns t&&!h.isEmpty) (.try_ (g b) p.1 (g h))
noncomputable def cS (N:Nm):Nat→Names→Stmt→St
  | 0,_,_=>.bad
  | n+1,ns,st=>match st with
    | .Pass _=>.pass
    | .Expr e _=>St.iff (!isComp e) (.expr (cE N n ns e))
    | .Assign ts e _=>St.opt (one ts) (asgE N ns (cE N n ns) e)
    | .AugAssign t o e _=>St.opt (opOf o) fun o=>augE N ns (cE N n ns) o e t
    | .If c a b _=>.if_ (cE N n ns c) (stsMap (cS N n ns) a) (stsMap (cS N n ns) b)
    | .While c b el _=>St.iff el.isEmpty (.while_ (cE N n ns c) (stsMap (cS N n ns) b))
    | .For t it b el _=>St.opt (nameOf t) fun x=>St.opt (slotOf x ns 0) fun p=>St.iff (el.isEmpty&&isOwn p.2&&!isSet it) (.for_ p.1 (cE N n ns it) (stsMap (cS N n ns) b))
    | .Return e _=>St.opt e fun e=>.ret (cE N n ns e)
    | .Break _=>.brk
    | .Continue _=>.cont
    | .Raise e c _=>St.opt e fun e=>St.opt (veArg ns e) fun m=>St.iff c.isNone (.raise_ m.cps.toList)
    | .Try b hs el fi _=>St.iff (el.isEmpty&&fi.isEmpty) (St.opt (one hs) (tryE ns (stsMap (cS N n ns)) b))
    | _=>.bad
noncomputable def cSs (N:Nm) (n:Nat) (ns:Names) (l:List Stmt):Sts:=stsMap (cS N n ns) l
end Mine
end
section
set_option backward.match.sparseCases false
set_option tactic.hygienic false
namespace Mine
section
variable {T:Tab} {cf:Nat→List V→List AO→R V} {K k n:Nat} {c:List LV→List AO→R V} {f:List LV→List AO→RS} {l l' l1:List LV} {s s' s1:List AO} {src:Src} {i j:Nat} {v:V} {b h:Sts} {m:List Nat} {r:RS} {g:List LV→List AO→RS} {e:Ex}
theorem opt_some {α β:Type} {o:Option α} {f:α→R β} {a:α} (h:o=some a):R.opt o f=f a:=by rw [h]; rfl
set_option tactic.hygienic true in
theorem loop_next {n:Nat} {x:Bool} {g:List LV→List AO→RS} {l:List LV} {s:List AO}:loopRes g n x (.next l s)=g (trim n l s).1 (trim n l s).2:=rfl
theorem bm_find_op {s:List AO} {y:List Nat} {as:List V}:bmOp s .find (.str y) as=findOp s y as:=rfl
theorem find_eq {s:List AO} {y:List Nat} {c:Nat} {p:Int}:bmOp s .find (.str y) [.str [c],.int p]=(if (decide (0 ≤ p)&&decide (p < 2 ^ 60))=true then .ok (.int (findC c y p.toNat y.length)) s else .fail):=by
  rw [bm_find_op]
  unfold findOp
  dsimp only
  rw [opt_some (rfl:(V.str [c]).chr?=some c),opt_some (rfl:(V.int p).int?=some p)]
set_option tactic.hygienic true in
theorem while_f (hc:c l s=.ok (.bool false) s'):whileTurns c f (k+1) l s=.next l s':=by
  show RS.cond (c l s) _ _=_
  rw [hc]; rfl
theorem while_t (hc:c l s=.ok (.bool true) s'):whileTurns c f (k+1) l s=loopRes (whileTurns c f k) s'.length true (f l s'):=by
  show RS.cond (c l s) _ _=_
  rw [hc]; rfl
set_option tactic.hygienic true in
theorem for_end (h:src.at s j=some none):forTurns src i f (k+1) j l s=.next l s:=by
  show RS.opt (src.at s j) _=_
  rw [h]; rfl
set_option tactic.hygienic true in
theorem for_step (h:src.at s j=some (some v)) (hs:setLoc l s i v=.next l1 s1):forTurns src i f (k+1) j l s=loopRes (forTurns src i f k (j+1)) s1.length false (f l1 s1):=by
  have:forTurns src i f (k+1) j l s=RS.opt (src.at s j) fun ov=>match ov with
    | none=>.next l s
    | some v=>(setLoc l s i v).seq fun l s=>loopRes (forTurns src i f k (j+1)) s.length false (f l s):=rfl
  rw [this,h]
  show (setLoc l s i v).seq _=_
  rw [hs]
theorem for_ev (h:evalE T cf K l false e s=.ok v s') (hs:srcOf s' v=some src):execS T cf K (.for_ i e b) l s=forTurns src i (fun l s=>execs T cf K b l s) K 0 l s':=by
  have:execS T cf K (.for_ i e b) l s=(evalE T cf K l false e s).st l fun v s=>RS.opt (srcOf s v) fun src=>forTurns src i (fun l s=>execs T cf K b l s) K 0 l s:=rfl
  rw [this,h]
  show RS.opt (srcOf s' v) _=_
  rw [hs]; rfl
theorem try_eq (hd:T.hd=false):execS T cf K (.try_ b i h) l s=tryRes i (fun l s=>execs { T with hd:=true } (fun _ _ _=>.fail) 0 h l s) (execs T cf K b l s):=by
  have:execS T cf K (.try_ b i h) l s=RS.nohd T.hd (tryRes i (fun l s=>execs { T with hd:=true } (fun _ _ _=>.fail) 0 h l s) (execs T cf K b l s)):=rfl
  rw [this,hd]; rfl
set_option tactic.hygienic true in
theorem try_exc (hm:m.length ≤ lim) (hs:setLoc l s i (.exc m)=.next l1 s1):tryRes i g (.exc 1 m l s)=(g l1 s1).handled i:=by
  have:tryRes i g (.exc 1 m l s)=if ((1:Nat) == 1&&decide (m.length ≤ lim))=true then (setLoc l s i (.exc m)).seq fun l s=>(g l s).handled i else .fail:=rfl
  rw [this,if_pos (by rw [decide_eq_true hm]; rfl),hs]
end
section
variable {T:Tab} {cf:Nat→List V→List AO→R V} {K:Nat} {l l1:List LV} {s s1 s2 s3 s4:List AO} {a b c e:Ex} {x y z v w:V} {vs:List V} {r:R V} {rs:RS} {o:Op} {m:Cm} {t:Bool}
theorem lit_ok:evalE T cf K l false (.lit v) s=.ok v s:=rfl
theorem loc_val {i:Nat} (h:l[i]?=some (.val v)):evalE T cf K l false (.loc i) s=.ok v s:=by
  show R.opt l[i]? _=_
  rw [h]; rfl
theorem loc_cel {i j:Nat} (h:l[i]?=some (.cel j)) (h2:s[j]?=some (.cell (some v))):evalE T cf K l false (.loc i) s=.ok v s:=by
  show R.opt l[i]? _=_
  rw [h]
  show R.opt (cellAt s j) _=_
  unfold cellAt
  rw [h2]; rfl
theorem bin_ok (h1:evalE T cf K l false a s=.ok x s1) (h2:evalE T cf K l false b s1=.ok y s2) (h3:binOp s2 o x y=r):evalE T cf K l false (.bin o a b) s=r:=by
  show (evalE T cf K l false a s).bind _=_
  rw [h1]
  show (evalE T cf K l false b s1).bind _=_
  rw [h2]; exact h3
theorem cmp_ok (h1:evalE T cf K l false a s=.ok x s1) (h2:evalE T cf K l false b s1=.ok y s2) (h3:cmpOp s2 m x y=r):evalE T cf K l t (.cmp m a b) s=r:=by
  show (evalE T cf K l false a s).bind _=_
  rw [h1]
  show (evalE T cf K l false b s1).bind _=_
  rw [h2]; exact h3
theorem idx_ok (h1:evalE T cf K l false a s=.ok x s1) (h2:evalE T cf K l false b s1=.ok y s2) (h3:idxOp s2 x y=r):evalE T cf K l false (.idx a b) s=r:=by
  show (evalE T cf K l false a s).bind _=_
  rw [h1]
  show (evalE T cf K l false b s1).bind _=_
  rw [h2]; exact h3
theorem slice_ok (h1:evalE T cf K l false a s=.ok x s1) (h2:evalE T cf K l false b s1=.ok y s2) (h3:evalE T cf K l false c s2=.ok z s3) (h4:sliceOp s3 x y z=r):evalE T cf K l false (.slice a b c) s=r:=by
  show (evalE T cf K l false a s).bind _=_
  rw [h1]
  show (evalE T cf K l false b s1).bind _=_
  rw [h2]
  show (evalE T cf K l false c s2).bind _=_
  rw [h3]; exact h4
theorem es_nil:evalEs T cf K l .nil s=.ok [] s:=rfl
theorem es_cons {as:Exs} (h1:evalE T cf K l false a s=.ok x s1) (h2:evalEs T cf K l as s1=.ok vs s2):evalEs T cf K l (.cons a as) s=.ok (x :: vs) s2:=by
  show (evalE T cf K l false a s).bind _=_
  rw [h1]
  show (evalEs T cf K l as s1).bind _=_
  rw [h2]
theorem es1 (h1:evalE T cf K l false a s=.ok x s1):evalEs T cf K l (.cons a .nil) s=.ok [x] s1:=es_cons h1 es_nil
theorem es2 (h1:evalE T cf K l false a s=.ok x s1) (h2:evalE T cf K l false b s1=.ok y s2):evalEs T cf K l (.cons a (.cons b .nil)) s=.ok [x,y] s2:=es_cons h1 (es1 h2)
theorem es3 (h1:evalE T cf K l false a s=.ok x s1) (h2:evalE T cf K l false b s1=.ok y s2) (h3:evalE T cf K l false c s2=.ok z s3):evalEs T cf K l (.cons a (.cons b (.cons c .nil))) s=.ok [x,y,z] s3:=es_cons h1 (es2 h2 h3)
theorem callF_ok {f:Nat} {as:Exs} (h1:evalEs T cf K l as s=.ok vs s1) (h2:cf f vs s1=r):evalE T cf K l false (.callF f as) s=r:=by
  show (evalEs T cf K l as s).bind _=_
  rw [h1]; exact h2
theorem len_ok {n:BI} {as:Exs} (hn:n.loops=false) (h1:evalEs T cf K l as s=.ok vs s1) (h2:biOp s1 n vs=r):evalE T cf K l false (.bi n as) s=r:=by
  show (evalEs T cf K l as s).bind _=_
  rw [h1]
  show (match T.hd&&n.loops with | true=>R.fail | false=>biOp s1 n vs)=_
  rw [hn,Bool.and_false]; exact h2
theorem bm_ok {k:BM} {as:Exs} {i:Nat} (hk:k.loops=false) (h1:evalE T cf K l false a s=.ok x s1) (h2:recvK s1 k x=some i) (h3:evalEs T cf K l as s1=.ok vs s2) (h4:recvK s2 k x=some i) (h5:bmOp s2 k x vs=r):evalE T cf K l false (.bm k a as) s=r:=by
  show (evalE T cf K l false a s).bind _=_
  rw [h1]
  show R.opt (recvK s1 k x) _=_
  rw [h2]
  show (evalEs T cf K l as s1).bind _=_
  rw [h3]
  show (if (!(T.hd&&k.loops)&&recvK s2 k x == some i)=true then _ else _)=_
  rw [hk,Bool.and_false,h4,beq_self_eq_true,if_pos (show (!false&&true)=true from rfl)]
  exact h5
theorem tup_ok {as:Exs} (h1:evalEs T cf K l as s=.ok vs s1) (h2:vs.length ≤ lim):evalE T cf K l false (.tup as) s=.ok (.tup vs) s1:=by
  show (evalEs T cf K l as s).bind _=_
  rw [h1]
  show (if vs.length ≤ lim then _ else _)=_
  rw [if_pos h2]
theorem ife_t (h1:evalE T cf K l true c s=.ok (.bool true) s1):evalE T cf K l t (.ife c a b) s=evalE T cf K l t a s1:=by
  show (evalE T cf K l true c s).bool _=_
  rw [h1]; rfl
theorem ife_f (h1:evalE T cf K l true c s=.ok (.bool false) s1):evalE T cf K l t (.ife c a b) s=evalE T cf K l t b s1:=by
  show (evalE T cf K l true c s).bool _=_
  rw [h1]; rfl
theorem and_f (h1:evalE T cf K l true a s=.ok (.bool false) s1):evalE T cf K l true (.boolop true (.cons a (.cons b .nil))) s=.ok (.bool false) s1:=by
  show (evalE T cf K l true a s).bool _=_
  rw [h1]; rfl
theorem and_t {q:Bool} (h1:evalE T cf K l true a s=.ok (.bool true) s1) (h2:evalE T cf K l true b s1=.ok (.bool q) s2):evalE T cf K l true (.boolop true (.cons a (.cons b .nil))) s=.ok (.bool q) s2:=by
  show (evalE T cf K l true a s).bool _=_
  rw [h1]
  show (evalE T cf K l true b s1).bool _=_
  rw [h2]
  cases q<;>rfl
theorem or_ok {p q:Bool} (h1:evalE T cf K l true a s=.ok (.bool p) s) (h2:evalE T cf K l true b s=.ok (.bool q) s):evalE T cf K l true (.boolop false (.cons a (.cons b .nil))) s=.ok (.bool (p || q)) s:=by
  show (evalE T cf K l true a s).bool _=_
  rw [h1]
  cases p with
  | true=>rfl
  | false =>
    show (evalE T cf K l true b s).bool _=_
    rw [h2]
    cases q<;>rfl
theorem asg_ok {i:Nat} (h:evalE T cf K l false e s=.ok v s1) (h2:setLoc l s1 i v=rs):execS T cf K (.asg i e) l s=rs:=by
  show (evalE T cf K l false e s).st l _=_
  rw [h]; exact h2
theorem asgA_ok {i:Nat} (h:evalE T cf K l false e s=.ok v s1) (h2:evalE T cf K l false a s1=.ok x s2) (h3:storeAttr T x i v l s2=rs):execS T cf K (.asgA a i e) l s=rs:=by
  show (evalE T cf K l false e s).st l _=_
  rw [h]
  show (evalE T cf K l false a s1).st l _=_
  rw [h2]; exact h3
theorem expr_ok (h:evalE T cf K l false e s=.ok v s1) (h2:v.flat=true):execS T cf K (.expr e) l s=.next l s1:=by
  show (evalE T cf K l false e s).st l _=_
  rw [h]
  show (match v.flat with | true=>RS.next l s1 | false=>.fail)=_
  rw [h2]
theorem aug_ok {i:Nat} (h1:getLoc l s i=.ok x s1) (h2:evalE T cf K l false e s1=.ok y s2) (h3:x.isObj=false) (h4:binOp s2 o x y=.ok z s3) (h5:setLoc l s3 i z=rs):execS T cf K (.aug i o e) l s=rs:=by
  show (getLoc l s i).st l _=_
  rw [h1]
  show (evalE T cf K l false e s1).st l _=_
  rw [h2]
  show (match x.isObj with | true=>RS.fail | false=>(binOp s2 o x y).st l fun v s=>setLoc l s i v)=_
  rw [h3]
  show (binOp s2 o x y).st l _=_
  rw [h4]; exact h5
theorem ret_ok (h:evalE T cf K l false e s=.ok v s1):execS T cf K (.ret e) l s=.ret v s1:=by
  show (evalE T cf K l false e s).st l _=_
  rw [h]
theorem seq_next {p:St} {ps:Sts} (h:execS T cf K p l s=.next l1 s1):execs T cf K (.cons p ps) l s=execs T cf K ps l1 s1:=by
  show (execS T cf K p l s).seq _=_
  rw [h]
theorem seq_ret {p:St} {ps:Sts} (h:execS T cf K p l s=.ret v s1):execs T cf K (.cons p ps) l s=.ret v s1:=by
  show (execS T cf K p l s).seq _=_
  rw [h]
end
end Mine
end
section
open PySem PySem.W PySem.Calls PyProof.Rows
set_option tactic.hygienic false
namespace Mine
theorem lookup_maketrans:typeLookup (.type "str") "maketrans"=pure (some (.builtin "str.maketrans")):=by rw [typeLookup_type,builtinLookup_eq_fast]; kernel_rfl
theorem lookup_str_ga:typeLookup (.type "str") "__getattribute__"=pure (some (.builtin "object.__getattribute__")):=by rw [typeLookup_type,builtinLookup_eq_fast]; kernel_rfl
theorem typeOf_maketrans:typeOf (.builtin "str.maketrans")=pure (.type "builtin_function_or_method"):=by show builtinType _=_; rw [builtinType_eq_fast]; kernel_rfl
theorem lookup_bfm_get:typeLookup (.type "builtin_function_or_method") "__get__"=pure none:=by rw [typeLookup_type,builtinLookup_eq_fast]; kernel_rfl
section
variable {prog:Program} {w:World} {A:Around} {E:Value→Shared→Prop} {s:Shared}
theorem getm_usual {v:Value} {T id:String} {name:Str} {pl:Sem Bool} {P:Value × List Value→Shared→Prop} (hT:s.TypeIs v T) (pa:PlainAttrs T) (hl:typeLookup (.type T) name=pure (some (.builtin id)))
    (hty:typeOf (.builtin id)=pure (.type "builtin_function_or_method")) (h:wpAny (model prog w) A (getAttr v name) (fun y s'=>P (y,[]) s') E s):wpAny (model prog w) A (getMethod v name pl) P E s:=by
  obtain ⟨g,hg,hcan⟩:=pa.ga
  unfold getMethod
  refine wpAny_bind (wpAny_specialOf hT hg ?_)
  show wpAny _ A (if (Manifest.canonical g != "object.__getattribute__")=true then _ else _) _ E s
  rw [hcan,if_neg Bool.false_ne_true]
  refine wpAny_bind (wpAny_specialOf hT pa.noGetattr ?_)
  refine wpAny_bind (wpAny_specialOf hT hl ?_)
  refine wpAny_bind (wpAny_of_eq hty ?_)
  rw [if_pos (by decide)]
  exact wpAny_bind (wpAny_mono h (fun y s' hy=>wpAny_pure hy) fun _ _ e=>e)
theorem getattr_str {x:Str} {t:Tok} {id:String} {name:Str} {P:Value→Shared→Prop} (hl:typeLookup (.type "str") name=pure (some (.builtin id)))
    (hty:typeOf (.builtin id)=pure (.type "builtin_function_or_method")) (hcopy:copiedNames.contains name=false) (hout:handedOut (.builtin id)=pure (.builtin id)) (h:P (.builtin id) { s with toks:=s.toks+1 }):wpAny (model prog w) A (getAttr (.str x t) name) P E s:=by
  unfold getAttr getAttrBy
  refine wpAny_bind (wpAny_mkText (wpAny_holding (wpAny_bind (wpAny_typeOf (typeIs_str _ _ _) (wpAny_bind (wpAny_of_eq lookup_str_ga ?_))))))
  show wpAny _ _ (getAttrByItsOwn _ _ (.type "str") (.builtin "object.__getattribute__") true false) _ _ _
  unfold getAttrByItsOwn
  refine wpAny_bind (m:=hookBefore _) (wpAny_pure ?_)
  refine wpAny_bind (wpAny_attempt (wpAny_holding ?_))
  unfold callGetattribute
  rw [if_neg (by decide)]
  unfold boundAndCalled
  rw [F.slot_str_getattribute.bind]
  refine wpAny_bind (wpAny_pure ?_)
  show wpAny _ _ (call (.builtin "object.__getattribute__") [.str x t,.str name s.toks]) _ _ _
  refine wpAny_call_entry F.slot_str_getattribute (typeIs_str _ _ _) F.entry_object_getattribute ?_ (F.args_object_getattribute_2 _ _)
  have hcp:copiedNames.contains name=false:=hcopy
  obtain ⟨hp,g,d,tk,os⟩:=s
  have hT:(⟨hp,g,d,tk+1,os⟩:Shared).TypeIs (.str x t) "str":=rfl
  have hT2:(⟨hp,g,d,tk+1,os⟩:Shared).TypeIs (.builtin id) "builtin_function_or_method":=hty
  have f6:=lookup_bfm_get
  dsimp only at h ⊢
  repeat (any_goals (first | assumption | wp_step))
  exact ⟨_,rfl,by rw [hout]; exact wpAny_pure h⟩
theorem get_str_usual {x:Str} {t:Tok} {id:String} {name:Str} {pl:Sem Bool} {P:Value × List Value→Shared→Prop} (hl:typeLookup (.type "str") name=pure (some (.builtin id)))
    (hty:typeOf (.builtin id)=pure (.type "builtin_function_or_method")) (hcopy:copiedNames.contains name=false) (hout:handedOut (.builtin id)=pure (.builtin id)) (h:∀ tk,P (.builtin id,[]) { s with toks:=tk }) :
    wpAny (model prog w) A (getMethod (.str x t) name pl) P E s :=
  getm_usual (typeIs_str _ _ _) F.plainAttrs_str hl hty (getattr_str hl hty hcopy hout (h _))
theorem copy_maketrans:copiedNames.contains "maketrans"=false:=by decide +kernel
theorem out_maketrans:handedOut (.builtin "str.maketrans")=pure (.builtin "str.maketrans"):=by kernel_rfl
theorem get_maketrans {x:Str} {t:Tok} {pl:Sem Bool} {P:Value × List Value→Shared→Prop} (h:∀ tk,P (.builtin "str.maketrans",[]) { s with toks:=tk }) :
    wpAny (model prog w) A (getMethod (.str x t) "maketrans" pl) P E s:=by
  with_reducible exact get_str_usual lookup_maketrans typeOf_maketrans copy_maketrans out_maketrans h
end
theorem findCls_fromkeys (K:Frag):findCls K (.type "dict") (.type "type") "fromkeys"=some (.get (.builtin "classmethod_descriptor.__get__") (.builtin "dict.fromkeys") .none (.type "dict")):=by kernel_rfl
theorem type_tga' (K:Frag):(findIn K (.type "type") "__getattribute__")=some (some (.builtin "type.__getattribute__")):=type_tga
theorem stub_dict:Manifest.isStub "dict"=false:=by decide +kernel
theorem typeOf_dict:typeOf (.type "dict")=pure (.type "type"):=by kernel_rfl
theorem entry_cmd_get:entryFor table "classmethod_descriptor.__get__"=some Builtin.«classmethod_descriptor.__get__»:=entryFor_of_tree (by kernel_rfl)
theorem plain_cmd_get:plainId "classmethod_descriptor.__get__"=true:=by decide +kernel
theorem check_cmd_get:checkBuiltinCall "classmethod_descriptor.__get__" ⟨[.builtin "dict.fromkeys",.none,.type "dict"],[]⟩=pure ():=by kernel_rfl
theorem tree_cmd_get:Builtin.«classmethod_descriptor.__get__» ⟨[.builtin "dict.fromkeys",.none,.type "dict"],[]⟩=(do ret (← newFields "builtin_function_or_method" [.builtin "dict.fromkeys",.type "dict"])):=by kernel_rfl
theorem checkBound_fromkeys (x:Str) (t:Tok):checkBoundCall "dict.fromkeys" ⟨[.type "dict",.str x t],[]⟩=pure ():=by kernel_rfl
abbrev bfmObj:Obj:={ cls:=.type "builtin_function_or_method",data:=.fields #[.builtin "dict.fromkeys",.type "dict"] }
section
variable {prog:Program} {w:World} {A:Around} {E:Value→Shared→Prop} {s:Shared} {K:Frag}
theorem getm_type_get {Tn:String} {name:Str} {g a o c:Value} {pl:Sem Bool} {Q:Value × List Value→Shared→Prop} (X:K.In s.heap) (ht:typeOf (.type Tn)=pure (.type "type")) (hs:Manifest.isStub Tn=false)
    (e:findCls K (.type Tn) (.type "type") name=some (.get g a o c))
    (h:wpAny (model prog w) A.in1 (call g [a,o,c]) (fun v s'=>wpAny (model prog w) A (handedOut v) (fun v s'=>Q (v,[]) s') E s') (fun _ _=>False) { s with toks:=s.toks+1 }):wpAny (model prog w) A (getMethod (.type Tn) name pl) Q E s:=by
  have hstub:opaqueClassAbove (.type Tn)=pure none:=by unfold opaqueClassAbove; dsimp only; rw [hs]; rfl
  have L0:Looks (model prog w) s.heap (typeOf (.type Tn)) (.type "type"):=Looks.of_pure ht
  have hg:=type_tga' K
  unfold getMethod specialOf
  refine wpAny_bind (wpAny_bind (L0.here ((looks_findIn X hg).here ?_)))
  dsimp only
  rw [if_pos canon_tga]
  refine wpAny_bind (wpAny_mono (Q:=fun v s'=>Q (v,[]) s') (E:=E) ?_ (fun _ _ z=>wpAny_pure z) fun _ _ z=>z)
  have LO:Looks (model prog w) s.heap (opaqueClassAbove (.type Tn)) none:=Looks.of_pure hstub
  refine cls_open X LO L0 hg (looks_hook X (r:=none) (by rfl)) (by show subIn K _ _=_; rfl) e ?_
  show wpAny _ _ (holding [a] (call g [a,o,c]) >>= fun v=>ret v) _ _ _
  exact wpAny_bind (wpAny_holding (wpAny_mono h (fun v s' hv=>wpAny_pure hv) fun _ _ f=>f))
theorem get_fromkeys {pl:Sem Bool} {Q:Value × List Value→Shared→Prop} (X:K.In s.heap) (h:∀ tk,Q (.ref s.heap.objs.size,[]) { s with heap:=s.heap.push bfmObj,toks:=tk }) :
    wpAny (model prog w) A (getMethod (.type "dict") "fromkeys" pl) Q E s:=by
  with_reducible refine getm_type_get X typeOf_dict stub_dict (findCls_fromkeys K) ?_
  refine wpAny_call (codeAny_call_builtin plain_cmd_get entry_cmd_get (wpAny_of_eq check_cmd_get ?_))
  rw [tree_cmd_get]
  unfold newFields
  refine wpAny_bind (wpAny_newObj_type (wpAny_pure ?_) ?_)
  · show wpAny _ _ (handedOut (.ref _)) _ _ _
    exact wpAny_pure (h _)
  · show (#[Value.builtin "dict.fromkeys",Value.type "dict"]:Array Value).size ≤ _; simp [sizeLine]
end
structure Wd where
  φ:List Addr
  kp:List (Addr × Obj)
structure Wd.le (a b:Wd):Prop where
  φ:a.φ <+: b.φ
  kp:∀ p ∈ a.kp,p ∈ b.kp
theorem Wd.le.refl (a:Wd):a.le a:=⟨List.prefix_refl _,fun _ h=>h⟩
theorem Wd.le.trans {a b c:Wd} (x:a.le b) (y:b.le c):a.le c:=⟨x.φ.trans y.φ,fun p h=>y.kp p (x.kp p h)⟩
theorem Wd.le.at {a b:Wd} (x:a.le b) {i:Nat} {y:Addr} (e:a.φ[i]?=some y):b.φ[i]?=some y:=by
  obtain ⟨t,ht⟩:=x.φ
  rw [← ht,List.getElem?_append_left]
  · exact e
  · exact (List.getElem?_eq_some_iff.mp e).1
theorem leN (W:Wd) (a:Addr):W.le ⟨W.φ++[a],W.kp⟩:=⟨List.prefix_append _ _,fun _ m=>m⟩
theorem leK (W:Wd) (p:Addr × Obj):W.le ⟨W.φ,p :: W.kp⟩:=⟨List.prefix_refl _,fun _ m=>.tail _ m⟩
noncomputable def strV (l:List Nat):Str:=⟨l.toArray⟩
noncomputable def typName:Nat→String
  | 0=>"int"
  | 1=>"bool"
  | _=>"str"
noncomputable abbrev tupOf (xs:List Value) (n:Nat):Obj:={ cls:=.type "tuple",data:=.seq xs.toArray n }
noncomputable abbrev lstOf (xs:List Value) (n:Nat):Obj:={ cls:=.type "list",data:=.seq xs.toArray n }
noncomputable abbrev rngOf (n:Int) (t u v:Tok):Obj:={ cls:=.type "range",dict:=none,data:=.fields #[.int 0 t,.int n u,.int 1 v],slots:=#[] }
noncomputable abbrev dqOf (xs:List Value) (st:Int):Obj:={ cls:=.type "collections.deque",data:=.fields (#[.none,rawInt st]++xs.toArray) }
mutual
inductive VR (W:Wd):V→Value→Prop
  | none:VR W .none .none
  | bool (b:Bool):VR W (.bool b) (.bool b)
  | int (i:Int) (t:Tok):VR W (.int i) (.int i t)
  | str (l:List Nat) (t:Tok):l.length ≤ lim→VR W (.str l) (.str (strV l) t)
  | typ (k:Nat):VR W (.typ k) (.type (typName k))
  | rng (n:Int) (a:Addr) (t u v:Tok):(a,rngOf n t u v) ∈ W.kp→VR W (.rng n) (.ref a)
  | tup (vs:List V) (a:Addr) (xs:List Value) (n:Nat):(a,tupOf xs n) ∈ W.kp→VRs W vs xs→vs.length ≤ lim→VR W (.tup vs) (.ref a)
  | lst (vs:List V) (a:Addr) (xs:List Value) (n:Nat):(a,lstOf xs n) ∈ W.kp→VRs W vs xs→vs.length ≤ lim→VR W (.lst vs) (.ref a)
  | exc (m:List Nat) (e t:Addr) (eo to:Obj) (vs:Array Value) (n:Nat) (tk:Tok):(e,eo) ∈ W.kp→(t,to) ∈ W.kp→eo.cls=.type "ValueError"→eo.data=.fields vs→vs[0]?=some (.ref t) →
    to.cls=.type "tuple"→to.data=.seq [.str (strV m) tk].toArray n→m.length ≤ lim→VR W (.exc m) (.ref e)
  | obj (i:Nat) (a:Addr):W.φ[i]?=some a→VR W (.obj i) (.ref a)
inductive VRs (W:Wd):List V→List Value→Prop
  | nil:VRs W [] []
  | cons {v:V} {x:Value} {vs:List V} {xs:List Value}:VR W v x→VRs W vs xs→VRs W (v :: vs) (x :: xs)
end
theorem VR.both {W:Wd} {P:V→Value→Prop} {Ps:List V→List Value→Prop} (h0:P .none .none) (h1:∀ b,P (.bool b) (.bool b)) (h2:∀ i t,P (.int i) (.int i t)) (h3:∀ l t,l.length ≤ lim→P (.str l) (.str (strV l) t)) (h4:∀ k,P (.typ k) (.type (typName k)))
    (h5:∀ n a t u v,(a,rngOf n t u v) ∈ W.kp→P (.rng n) (.ref a)) (h6:∀ vs a xs n,(a,tupOf xs n) ∈ W.kp→VRs W vs xs→vs.length ≤ lim→Ps vs xs→P (.tup vs) (.ref a)) (h7:∀ vs a xs n,(a,lstOf xs n) ∈ W.kp→VRs W vs xs→vs.length ≤ lim→Ps vs xs→P (.lst vs) (.ref a))
    (h8:∀ m e,(∀ W',(∀ p ∈ W.kp,p.2.cls=.type "ValueError" ∨ p.2.cls=.type "tuple"→p ∈ W'.kp)→VR W' (.exc m) (.ref e))→P (.exc m) (.ref e)) (h9:∀ i a,W.φ[i]?=some a→P (.obj i) (.ref a)) (hn:Ps [] []) (hc:∀ v x vs xs,P v x→Ps vs xs→Ps (v :: vs) (x :: xs)) :
    (∀ {v x},VR W v x→P v x)∧∀ {vs xs},VRs W vs xs→Ps vs xs :=
  have h8':∀ m e t eo to vs n tk,(e,eo) ∈ W.kp→(t,to) ∈ W.kp→eo.cls=.type "ValueError"→eo.data=.fields vs→vs[0]?=some (.ref t)→to.cls=.type "tuple"→to.data=.seq [.str (strV m) tk].toArray n→m.length ≤ lim→P (.exc m) (.ref e) :=
    fun m e t eo to vs n tk a b c d f g k q=>h8 m e fun W' h=>.exc m e t eo to vs n tk (h _ a (.inl c)) (h _ b (.inr g)) c d f g k q
  ⟨fun r=>@VR.rec W (fun v x _=>P v x) (fun vs xs _=>Ps vs xs) h0 h1 h2 h3 h4 h5 h6 h7 h8' h9 hn (fun _ _ i j=>hc _ _ _ _ i j) _ _ r,
    fun r=>@VRs.rec W (fun v x _=>P v x) (fun vs xs _=>Ps vs xs) h0 h1 h2 h3 h4 h5 h6 h7 h8' h9 hn (fun _ _ i j=>hc _ _ _ _ i j) _ _ r⟩
theorem VR.mono2 {W W':Wd} (h:W.le W'):(∀ {v x},VR W v x→VR W' v x)∧∀ {vs xs},VRs W vs xs→VRs W' vs xs :=
  VR.both .none .bool .int .str .typ (fun n a t u v m=>.rng n a t u v (h.kp _ m)) (fun vs a xs n m _ q i=>.tup vs a xs n (h.kp _ m) i q) (fun vs a xs n m _ q i=>.lst vs a xs n (h.kp _ m) i q) (fun m e k=>k W' fun p m _=>h.kp p m) (fun i a e=>.obj i a (h.at e)) .nil fun _ _ _ _ a b=>.cons a b
theorem VR.mono {W W':Wd} (h:W.le W') {v:V} {x:Value} (r:VR W v x):VR W' v x:=(VR.mono2 h).1 r
theorem VRs.mono {W W':Wd} (h:W.le W') {vs:List V} {xs:List Value} (r:VRs W vs xs):VRs W' vs xs:=(VR.mono2 h).2 r
theorem VRs.length {W:Wd} {vs:List V}:∀ {xs:List Value},VRs W vs xs→xs.length=vs.length:=by
  induction vs with
  | nil=>intro xs h; cases h; rfl
  | cons v vs ih=>intro xs h; cases h with | cons a b=>exact congrArg (·+1) (ih b)
theorem VRs.append {W:Wd} {vs ws:List V} {xs ys:List Value} (h:VRs W vs xs) (h2:VRs W ws ys):VRs W (vs++ws) (xs++ys):=by
  induction vs generalizing xs with
  | nil=>cases h; exact h2
  | cons v vs ih=>cases h with | cons a b=>exact .cons a (ih b)
theorem VRs.get {W:Wd} {vs:List V}:∀ {xs:List Value},VRs W vs xs→∀ {i:Nat} {v:V},vs[i]?=some v→∃ x,xs[i]?=some x∧VR W v x:=by
  induction vs with
  | nil=>intro xs h i v e; cases e
  | cons w vs ih =>
    intro xs h i v e
    cases h with
    | cons a b=>cases i with
      | zero=>cases e; exact ⟨_,rfl,a⟩
      | succ i=>exact ih b e
theorem VRs.take {W:Wd} {vs:List V}:∀ {xs:List Value},VRs W vs xs→∀ n,VRs W (vs.take n) (xs.take n):=by
  induction vs with
  | nil=>intro xs h n; cases h; rw [List.take_nil,List.take_nil]; exact .nil
  | cons v vs ih =>
    intro xs h n
    cases h with
    | cons a b=>cases n with
      | zero=>exact .nil
      | succ n=>exact .cons a (ih b n)
theorem VRs.drop {W:Wd} {vs:List V}:∀ {xs:List Value},VRs W vs xs→∀ n,VRs W (vs.drop n) (xs.drop n):=by
  induction vs with
  | nil=>intro xs h n; cases h; rw [List.drop_nil,List.drop_nil]; exact .nil
  | cons v vs ih =>
    intro xs h n
    cases h with
    | cons a b=>cases n with
      | zero=>exact .cons a b
      | succ n=>exact ih b n
theorem VRs.replicate {W:Wd} {v:V} {x:Value} (h:VR W v x) (n:Nat):VRs W (List.replicate n v) (List.replicate n x):=by
  induction n with
  | zero=>exact .nil
  | succ n ih=>exact .cons h ih
theorem noTrue {P:Prop} (h:false=true):P:=nomatch h
theorem noSome {α:Type} {b:α} {P:Prop} (h:none=some b):P:=nomatch h
theorem bindSome {α β:Type} {o:Option α} {f:α→Option β} {b:β} (h:o.bind f=some b):∃ a,o=some a∧f a=some b:=Option.bind_eq_some_iff.mp h
theorem iteSome {α:Type} {p:Prop} [Decidable p] {a b:α} (h:(if p then some a else none)=some b):p∧a=b:=by
  by_cases q:p
  · rw [if_pos q] at h; exact ⟨q,Option.some.inj h⟩
  · rw [if_neg q] at h; cases h
theorem mapNot {o:Option Bool} {b:Bool} (h:o.map not=some b):o=some (!b):=by
  cases o with
  | none=>cases h
  | some c=>cases h; cases c<;>rfl
section
variable {W:Wd} {v:V} {x:Value}
inductive IntIs (i:Int):V→Value→Prop
  | mk (t:Tok):IntIs i (.int i) (.int i t)
inductive StrIs (l:List Nat):V→Value→Prop
  | mk (t:Tok):l.length ≤ lim→StrIs l (.str l) (.str (strV l) t)
theorem VR.int? (h:VR W v x) {i:Int} (e:v.int?=some i):IntIs i v x:=by
  cases h<;>first | exact noSome e | (cases e; exact .mk _)
set_option tactic.hygienic true in
theorem VR.str? (h:VR W v x) {l:List Nat} (e:v.str?=some l):StrIs l v x:=by
  cases h<;>first | exact noSome e | (cases e; exact .mk _ ‹_›)
set_option tactic.hygienic true in
theorem VR.obj? (h:VR W v x) {i:Nat} (e:v.obj?=some i):∃ a,x=.ref a∧W.φ[i]?=some a:=by
  cases h<;>first | exact noSome e | (cases e; exact ⟨_,rfl,‹_›⟩)
theorem one_is {α:Type} {l:List α} {a:α} (e:one l=some a):l=[a]:=by
  cases l with
  | nil=>cases e
  | cons b r=>cases r with
    | nil=>cases e; rfl
    | cons _ _=>cases e
theorem VR.chr? (h:VR W v x) {c:Nat} (e:v.chr?=some c):StrIs [c] v x:=by
  obtain ⟨l,e1,e2⟩:=bindSome e
  cases one_is e2
  exact h.str? e1
inductive OneIs (W:Wd) (v:V):List Value→Prop
  | mk (x:Value):VR W v x→OneIs W v [x]
theorem VRs.one {vs:List V} {xs:List Value} (h:VRs W vs xs) (e:one vs=some v):OneIs W v xs:=by
  cases one_is e
  cases h with
  | cons a b=>cases b; exact .mk _ a
end
structure Cx where
  prog:Program
  w:World
  K:Frag
  h₀:Heap
  nm:List Str
  cls:Nat→Option Addr
  p:Program
  loose:List Str
  mg:Str→Option Value
  mb:Str→Option Value
inductive ER (C:Cx) (W:Wd):List (Nat × V)→List (Str × Value)→Prop
  | nil:ER C W [] []
  | cons {a:Nat} {v:V} {l:List (Nat × V)} {es:List (Str × Value)} {x:Str} {y:Value} :
    C.nm[a]?=some x→VR W v y→ER C W l es→ER C W ((a,v) :: l) ((x,y) :: es)
inductive DR (W:Wd):List (List Nat × V)→List (Str × Value)→Prop
  | nil:DR W [] []
  | cons {a:List Nat} {v:V} {l:List (List Nat × V)} {es:List (Str × Value)} {y:Value} :
    VR W v y→DR W l es→DR W ((a,v) :: l) ((strV a,y) :: es)
theorem ER.mono {C:Cx} {W W':Wd} (h:W.le W') {l:List (Nat × V)} {es:List (Str × Value)} (x:ER C W l es):ER C W' l es:=by
  induction x with
  | nil=>exact .nil
  | cons a b _ ih=>exact .cons a (b.mono h) ih
theorem DR.mono {W W':Wd} (h:W.le W') {l:List (List Nat × V)} {es:List (Str × Value)} (x:DR W l es):DR W' l es:=by
  induction x with
  | nil=>exact .nil
  | cons b _ ih=>exact .cons (b.mono h) ih
inductive DObj {prog:Program} {w:World} {K:Type} [DecidableEq K] (knd:KeyKind prog w K) (o:Obj) (kvs:List (K × Value)):Prop
  | mk (es:Array DictEntry) (ep:Nat) (h1:o.ExactDict) (h2:o.data=.dict es ep) (h3:KeysOf knd es) (h4:Pairs knd es.toList kvs) (h5:(kvs.map (·.1)).Nodup):DObj knd o kvs
noncomputable def keysOf (l:List (List Nat)):List (Str × Value):=l.map fun a=>(strV a,.none)
noncomputable def ordsOf (l:List Nat):List (Int × Value):=l.map fun (a:Nat)=>((a:Int),Value.none)
inductive OR (C:Cx) (W:Wd):AO→Obj→Prop
  | list (vs:List V) (xs:List Value) (n:Nat):VRs W vs xs→vs.length ≤ lim→OR C W (.list vs) (lstOf xs n)
  | inst (c d:Nat) (Ca dx:Addr):C.cls c=some Ca→W.φ[d]?=some dx→OR C W (.inst c d) (instObj Ca dx)
  | attrs (l:List (Nat × V)) (es:List (Str × Value)) (o:Obj):ER C W l es→DObj (strKind C.prog C.w) o es→OR C W (.attrs l) o
  | deque (vs:List V) (xs:List Value) (st:Int):VRs W vs xs→vs.length ≤ lim→OR C W (.deque vs) (dqOf xs st)
  | keys (l:List (List Nat)) (o:Obj):DObj (strKind C.prog C.w) o (keysOf l)→OR C W (.keys l) o
  | dict (l:List (List Nat × V)) (es:List (Str × Value)) (o:Obj):DR W l es→DObj (strKind C.prog C.w) o es→OR C W (.dict l) o
  | ords (l:List Nat) (o:Obj):DObj (intKind C.prog C.w) o (ordsOf l)→OR C W (.ords l) o
  | cell (v:Option V) (o:Obj) (x:Option Value):(∀ v',v=some v'→∃ y,x=some y∧VR W v' y)→o.data=.cell x→OR C W (.cell v) o
theorem OR.mono {C:Cx} {W W':Wd} (h:W.le W') {a:AO} {o:Obj} (x:OR C W a o):OR C W' a o:=by
  cases x with
  | list vs xs n r q=>exact .list _ _ _ (r.mono h) q
  | inst c d Ca dx a b=>exact .inst _ _ _ _ a (h.at b)
  | attrs l es o r q=>exact .attrs _ _ _ (r.mono h) q
  | deque vs xs st r q=>exact .deque _ _ _ (r.mono h) q
  | keys l o q=>exact .keys _ _ q
  | dict l es o r q=>exact .dict _ _ _ (r.mono h) q
  | ords l o q=>exact .ords _ _ q
  | cell v o x r e=>exact .cell _ _ x (fun v' q=>let ⟨y,a,b⟩:=r v' q; ⟨y,a,b.mono h⟩) e
theorem DObj.free {prog:Program} {w:World} {K:Type} [DecidableEq K] {knd:KeyKind prog w K} {o:Obj} {kvs:List (K × Value)} (x:DObj knd o kvs):o.isFreed=false:=by
  obtain ⟨es,ep,_,e,_⟩:=x
  obtain ⟨_,_,d,_⟩:=o
  cases e
  rfl
theorem OR.free {C:Cx} {W:Wd} {a:AO} {o:Obj} (x:OR C W a o):o.isFreed=false:=by
  cases x with
  | attrs _ _ _ _ q=>exact q.free
  | keys _ _ q=>exact q.free
  | dict _ _ _ _ q=>exact q.free
  | ords _ _ q=>exact q.free
  | cell v o x r e =>
    obtain ⟨_,_,d,_⟩:=o
    cases e
    rfl
  | _=>rfl
structure FrD where
  env:Env
  loc:List LV
noncomputable def LR (W:Wd) (env:Env) (m:Str→Option Value) (x:Str) (k:NameKind):LV→Prop
  | .un=>True
  | .val v=>k=.local∧∃ y,m x=some y∧VR W v y
  | .cel j=>(k=.cell ∨ k=.free)∧∃ a,env.cells.lookup x=some a∧W.φ[j]?=some a
structure FR (W:Wd) (h:Heap) (f:FrD):Prop where
  kind:f.env.scope.kind=.function
  glob:f.env.globals=mainGlobals
  bns:f.env.builtins=builtinsNs
  ns:∃ m,h.Ns f.env.locals m∧∀ (i:Nat) (x:Str) (k:NameKind) (v:LV),f.env.scope.names[i]?=some (x,k)→f.loc[i]?=some v→LR W f.env m x k v
  cel:∀ (i:Nat) (x:Str),f.env.scope.names[i]?=some (x,.cell)→∀ v:LV,f.loc[i]?=some v→∃ j,v=.cel j
theorem LR.mono {W W':Wd} (h:W.le W') {env:Env} {m:Str→Option Value} {x:Str} {k:NameKind} {v:LV} (r:LR W env m x k v):LR W' env m x k v:=by
  cases v with
  | un=>trivial
  | val v=>exact ⟨r.1,let ⟨y,a,b⟩:=r.2; ⟨y,a,b.mono h⟩⟩
  | cel j=>exact ⟨r.1,let ⟨a,b,c⟩:=r.2; ⟨a,b,h.at c⟩⟩
theorem FR.mono {W W':Wd} (h:W.le W') {hp:Heap} {f:FrD} (r:FR W hp f):FR W' hp f :=
  ⟨r.kind,r.glob,r.bns,let ⟨m,a,b⟩:=r.ns; ⟨m,a,fun i x k v e1 e2=>(b i x k v e1 e2).mono h⟩,r.cel⟩
theorem FR.at {W:Wd} {h h':Heap} {f:FrD} (r:FR W h f) (k:∀ o,h.get? f.env.locals=some o→h'.get? f.env.locals=some o):FR W h' f :=
  ⟨r.kind,r.glob,r.bns,let ⟨m,a,b⟩:=r.ns; ⟨m,a.at' k,b⟩,r.cel⟩
structure HR (C:Cx) (fs:List FrD) (W:Wd) (os:List AO) (h:Heap):Prop where
  base:∀ b o,C.h₀.get? b=some o→h.get? b=some o
  kept:∀ p ∈ W.kp,h.get? p.1=some p.2
  len:W.φ.length=os.length
  objs:∀ (i:Nat) (o:AO) (a:Addr),os[i]?=some o→W.φ[i]?=some a→∃ ob,h.get? a=some ob∧OR C W o ob
  frames:∀ f ∈ fs,FR W h f
  nodup:(fs.map (·.env.locals)++W.φ).Nodup
  apart:∀ a ∈ fs.map (·.env.locals)++W.φ,C.h₀.get? a=none∧∀ p ∈ W.kp,p.1 ≠ a
section
variable {C:Cx} {fs:List FrD} {W:Wd} {os:List AO} {h:Heap}
theorem HR.look (H:HR C fs W os h) {i:Nat} {o:AO} (e:os[i]?=some o):∃ a ob,W.φ[i]?=some a∧h.get? a=some ob∧OR C W o ob:=by
  have hi:=(List.getElem?_eq_some_iff.mp e).1
  have:i < W.φ.length:=by rw [H.len]; exact hi
  obtain ⟨ob,a,b⟩:=H.objs i o W.φ[i] e (List.getElem?_eq_getElem this)
  exact ⟨_,ob,List.getElem?_eq_getElem this,a,b⟩
theorem HR.lt (H:HR C fs W os h) {a:Addr} (m:a ∈ fs.map (·.env.locals)++W.φ):a < h.objs.size:=by
  rcases List.mem_append.mp m with m | m
  · obtain ⟨f,hf,rfl⟩:=List.mem_map.mp m
    obtain ⟨_,hn,_⟩:=(H.frames f hf).ns
    exact hn.lt
  · obtain ⟨i,hi,rfl⟩:=List.getElem_of_mem m
    have hi':i < os.length:=by rw [← H.len]; exact hi
    obtain ⟨ob,q,_⟩:=H.objs i os[i] W.φ[i] (List.getElem?_eq_getElem hi') (List.getElem?_eq_getElem hi)
    exact Heap.lt_size q
theorem HR.keeps (H:HR C fs W os h) {h':Heap} (k:∀ b o,h.get? b=some o→h'.get? b=some o):HR C fs W os h' where
  base b o e:=k b o (H.base b o e)
  kept p m:=k _ _ (H.kept p m)
  len:=H.len
  objs i o a e1 e2:=let ⟨ob,x,y⟩:=H.objs i o a e1 e2; ⟨ob,k _ _ x,y⟩
  frames f m:=(H.frames f m).at (k _)
  nodup:=H.nodup
  apart:=H.apart
theorem HR.fresh (H:HR C fs W os h):C.h₀.get? h.objs.size=none:=by
  cases q:C.h₀.get? h.objs.size with
  | none=>rfl
  | some o=>exact absurd (Heap.lt_size (H.base _ _ q)) (Nat.lt_irrefl _)
theorem HR.keptLt (H:HR C fs W os h) {p:Addr × Obj} (m:p ∈ W.kp):p.1 < h.objs.size:=Heap.lt_size (H.kept p m)
inductive ObjIs (C:Cx) (W:Wd) (os:List AO) (h:Heap) (o:AO):V→Value→Prop
  | mk (i:Nat) (a:Addr) (ob:Obj):os[i]?=some o→W.φ[i]?=some a→h.get? a=some ob→OR C W o ob→ObjIs C W os h o (.obj i) (.ref a)
inductive LstIs (W:Wd) (os:List AO) (h:Heap) (vs:List V):V→Value→Prop
  | mk (i:Nat) (a:Addr) (xs:List Value) (n:Nat):os[i]?=some (.list vs)→W.φ[i]?=some a→h.get? a=some (lstOf xs n)→VRs W vs xs→vs.length ≤ lim→LstIs W os h vs (.obj i) (.ref a)
theorem HR.obj? (H:HR C fs W os h) {v:V} {x:Value} (r:VR W v x) {o:AO} (e:objAt os v=some o):ObjIs C W os h o v x:=by
  cases r with
  | obj i a ea=>obtain ⟨ob,g,q⟩:=H.objs i o a e ea; exact .mk i a ob e ea g q
  | _=>cases e
theorem AO.list_of {o:AO} {vs:List V} (e:o.list?=some vs):o=.list vs:=by
  cases o<;>first | exact noSome e | (cases e; rfl)
theorem AO.dict_of {o:AO} {l:List (List Nat × V)} (e:o.dict?=some l):o=.dict l:=by
  cases o<;>first | exact noSome e | (cases e; rfl)
theorem AO.deque_of {o:AO} {l:List V} (e:o.deque?=some l):o=.deque l:=by
  cases o<;>first | exact noSome e | (cases e; rfl)
theorem AO.keys_of {o:AO} {l:List (List Nat)} (e:o.keys?=some l):o=.keys l:=by
  cases o<;>first | exact noSome e | (cases e; rfl)
theorem AO.ords_of {o:AO} {l:List Nat} (e:o.ords?=some l):o=.ords l:=by
  cases o<;>first | exact noSome e | (cases e; rfl)
theorem AO.inst_of {o:AO} {l:Nat × Nat} (e:o.inst?=some l):o=.inst l.1 l.2:=by
  cases o<;>first | exact noSome e | (cases e; rfl)
theorem AO.attrs_of {o:AO} {l:List (Nat × V)} (e:o.attrs?=some l):o=.attrs l:=by
  cases o<;>first | exact noSome e | (cases e; rfl)
theorem AO.cell_of {o:AO} {l:Option V} (e:o.cell?=some l):o=.cell l:=by
  cases o<;>first | exact noSome e | (cases e; rfl)
theorem HR.lst? (H:HR C fs W os h) {v:V} {x:Value} (r:VR W v x) {vs:List V} (e:listAt os v=some vs):LstIs W os h vs v x:=by
  obtain ⟨o,e1,e2⟩:=bindSome e
  cases AO.list_of e2
  cases H.obj? r e1 with
  | mk i a ob e0 ea g q=>cases q with
    | list _ xs n rs l=>exact .mk i a xs n e0 ea g rs l
theorem HR.new (H:HR C fs W os h) {ao:AO} {o:Obj} (r:OR C ⟨W.φ++[h.objs.size],W.kp⟩ ao o):HR C fs ⟨W.φ++[h.objs.size],W.kp⟩ (os++[ao]) (h.push o) where
  base b o' e:=Heap.get?_push_of_some _ (H.base b o' e)
  kept p m:=Heap.get?_push_of_some _ (H.kept p m)
  len:=by simp [H.len]
  objs i o' a e1 e2:=by
    have le:W.le ⟨W.φ++[h.objs.size],W.kp⟩:=⟨List.prefix_append _ _,fun _ m=>m⟩
    by_cases hi:i < os.length
    · rw [List.getElem?_append_left hi] at e1
      rw [List.getElem?_append_left (by rw [H.len]; exact hi)] at e2
      obtain ⟨ob,x,y⟩:=H.objs i o' a e1 e2
      exact ⟨ob,Heap.get?_push_of_some _ x,y.mono le⟩
    · have:i=os.length:=by
        have:=(List.getElem?_eq_some_iff.mp e1).1
        simp at this
        omega
      subst this
      rw [List.getElem?_append_right (Nat.le_refl _)] at e1
      rw [List.getElem?_append_right (by rw [H.len]; exact Nat.le_refl _)] at e2
      simp [H.len] at e1 e2
      subst e1 e2
      exact ⟨o,Heap.get?_push_size _ r.free,r⟩
  frames f m:=FR.mono (leN W _) ((H.frames f m).at fun _ e=>Heap.get?_push_of_some _ e)
  nodup:=by
    rw [← List.append_assoc]
    refine List.nodup_append.mpr ⟨H.nodup,by simp,?_⟩
    intro a ha b hb
    simp at hb
    subst hb
    exact Nat.ne_of_lt (H.lt ha)
  apart a m:=by
    rw [← List.append_assoc] at m
    rcases List.mem_append.mp m with m | m
    · exact H.apart a m
    · simp at m
      subst m
      exact ⟨H.fresh,fun p hp=>Nat.ne_of_lt (H.keptLt hp)⟩
theorem HR.keep (H:HR C fs W os h) (o:Obj) (hf:o.isFreed=false):HR C fs ⟨W.φ,(h.objs.size,o) :: W.kp⟩ os (h.push o) where
  base b o' e:=Heap.get?_push_of_some _ (H.base b o' e)
  kept p m:=by
    rcases List.mem_cons.mp m with rfl | m
    · exact Heap.get?_push_size _ hf
    · exact Heap.get?_push_of_some _ (H.kept p m)
  len:=H.len
  objs i o' a e1 e2:=let ⟨ob,x,y⟩:=H.objs i o' a e1 e2; ⟨ob,Heap.get?_push_of_some _ x,OR.mono (leK W _) y⟩
  frames f m:=FR.mono (leK W _) ((H.frames f m).at fun _ e=>Heap.get?_push_of_some _ e)
  nodup:=H.nodup
  apart a m:=⟨(H.apart a m).1,fun p hp=>by
    rcases List.mem_cons.mp hp with rfl | hp
    · exact (Nat.ne_of_lt (H.lt m)).symm
    · exact (H.apart a m).2 p hp⟩
theorem HR.off (H:HR C fs W os h) {a:Addr} (m:a ∈ fs.map (·.env.locals)++W.φ) {b:Addr} {o:Obj} (e:C.h₀.get? b=some o):b ≠ a:=fun q=>by
  have:=(H.apart a m).1
  rw [← q,e] at this
  cases this
theorem HR.ne (H:HR C fs W os h) {i j:Nat} {a b:Addr} (e1:W.φ[i]?=some a) (e2:W.φ[j]?=some b) (n:i ≠ j):a ≠ b:=by
  have nd:=(List.nodup_append.mp H.nodup).2.1
  intro q
  subst q
  obtain ⟨h1,e1⟩:=List.getElem?_eq_some_iff.mp e1
  obtain ⟨h2,e2⟩:=List.getElem?_eq_some_iff.mp e2
  exact n ((List.getElem_inj nd).mp (e1.trans e2.symm))
theorem HR.neL (H:HR C fs W os h) {f:FrD} (m:f ∈ fs) {i:Nat} {a:Addr} (e:W.φ[i]?=some a):f.env.locals ≠ a :=
  (List.nodup_append.mp H.nodup).2.2 _ (List.mem_map_of_mem m) _ (List.mem_of_getElem? e)
theorem HR.upd (H:HR C fs W os h) {h':Heap} {i:Nat} {a:Addr} {ao:AO} {ob:Obj} (e:W.φ[i]?=some a) (sb:Heap.SameBut a h h') (g:h'.get? a=some ob) (r:OR C W ao ob) :
    HR C fs W (os.set i ao) h' where
  base b o q:=(sb.2 b (H.off (List.mem_append_right _ (List.mem_of_getElem? e)) q)).trans (H.base b o q)
  kept p m:=(sb.2 p.1 ((H.apart a (List.mem_append_right _ (List.mem_of_getElem? e))).2 p m)).trans (H.kept p m)
  len:=by simp [H.len]
  objs j o b e1 e2:=by
    by_cases hj:j=i
    · subst hj
      rw [e] at e2
      cases e2
      have hl:j < os.length:=by have:=(List.getElem?_eq_some_iff.mp e1).1; simpa using this
      rw [List.getElem?_set_self hl] at e1
      cases e1
      exact ⟨ob,g,r⟩
    · rw [List.getElem?_set_ne (Ne.symm hj)] at e1
      obtain ⟨ob',x,y⟩:=H.objs j o b e1 e2
      exact ⟨ob',(sb.2 b (H.ne e2 e hj)).trans x,y⟩
  frames f m:=(H.frames f m).at fun o q=>(sb.2 _ (H.neL m e)).trans q
  nodup:=H.nodup
  apart:=H.apart
end
noncomputable def Sm (s s':Shared):Prop:=s'.gens=s.gens∧s'.drawn=s.drawn∧s'.os=s.os
theorem Sm.refl (s:Shared):Sm s s:=⟨rfl,rfl,rfl⟩
theorem Sm.trans {a b c:Shared} (x:Sm a b) (y:Sm b c):Sm a c:=⟨y.1.trans x.1,y.2.1.trans x.2.1,y.2.2.trans x.2.2⟩
theorem Sm.heap (s:Shared) (h:Heap) (t:Nat):Sm s { s with heap:=h,toks:=t }:=⟨rfl,rfl,rfl⟩
noncomputable def FrD.real (f:FrD):Bool:=f.env.frame == some f.env.locals
noncomputable def reals (fs:List FrD):List Env:=(fs.filter FrD.real).map (·.env)
structure XR (C:Cx) (fs:List FrD) (W:Wd) (os:List AO) (m:List Nat) (e:Addr) (h:Heap):Prop where
  hr:HR C fs W os h
  fly:∃ B t tk,Heap.FlyingW B (reals fs) e (.type "ValueError") (.ref t) h∧h.TupAt t [.str (strV m) tk] ∧
    (∀ b o,C.h₀.get? b=some o→B.get? b=some o)∧(∀ p ∈ W.kp,B.get? p.1=some p.2) ∧
    (∀ (i:Nat) (o:AO) (a:Addr),os[i]?=some o→W.φ[i]?=some a→∃ ob,B.get? a=some ob∧OR C W o ob)
section
variable (C:Cx)
inductive PR {α β:Type} (rel:Wd→α→β→Prop) (fs:List FrD) (W:Wd) (s:Shared) (r:R α) (x:β) (s':Shared):Prop
  | mk (a:α) (os:List AO) (W':Wd) (e:r=.ok a os) (le:W.le W') (H:HR C fs W' os s'.heap) (q:rel W' a x) (sm:Sm s s'):PR rel fs W s r x s'
inductive PX {α:Type} (fs:List FrD) (W:Wd) (s:Shared) (r:R α) (e:Value) (s':Shared):Prop
  | mk (m:List Nat) (os:List AO) (W':Wd) (a:Addr) (er:r=.exc m os) (ee:e=.ref a) (le:W.le W') (X:XR C fs W' os m a s'.heap) (sm:Sm s s'):PX fs W s r e s'
noncomputable def Sat {α β:Type} (A:Around) (t:Sem β) (rel:Wd→α→β→Prop) (fs:List FrD) (W:Wd) (r:R α) (s:Shared):Prop :=
  r ≠ .fail→wpAny (model C.prog C.w) A t (PR C rel fs W s r) (PX C fs W s r) s
end
section
variable {C:Cx} {α β γ δ:Type} {A:Around} {t:Sem β} {rel:Wd→α→β→Prop} {rel':Wd→γ→δ→Prop} {fs:List FrD} {W:Wd} {os:List AO} {s:Shared}
theorem Sat.pure {a:α} {x:β} (H:HR C fs W os s.heap) (r:rel W a x):Sat C A (Pure.pure x) rel fs W (.ok a os) s :=
  fun _=>wpAny_pure ⟨a,os,W,rfl,.refl _,H,r,.refl _⟩
theorem Sat.fail:Sat C A t rel fs W (.fail:R α) s:=fun h=>absurd rfl h
theorem Sat.opt {o:Option γ} {f:γ→R α} (h:∀ a,o=some a→Sat C A t rel fs W (f a) s):Sat C A t rel fs W (R.opt o f) s:=by
  cases o with
  | none=>exact Sat.fail
  | some a=>exact h a rfl
theorem R.opt_ne {o:Option γ} {f:γ→R α} (h:R.opt o f ≠ .fail):∃ a,o=some a∧f a ≠ .fail:=by
  cases o with
  | none=>exact absurd rfl h
  | some a=>exact ⟨a,rfl,h⟩
theorem RS.opt_ne {o:Option γ} {f:γ→RS} (h:RS.opt o f ≠ .fail):∃ a,o=some a∧f a ≠ .fail:=by
  cases o with
  | none=>exact absurd rfl h
  | some a=>exact ⟨a,rfl,h⟩
theorem R.opt_eq {o:Option γ} {f:γ→R α} {a:γ} (h:o=some a):R.opt o f=f a:=by rw [h]; rfl
theorem RS.opt_eq {o:Option γ} {f:γ→RS} {a:γ} (h:o=some a):RS.opt o f=f a:=by rw [h]; rfl
theorem ite_ne {β:Type} {p:Prop} [Decidable p] {x y:β} (h:(if p then x else y) ≠ y):p:=by
  by_cases q:p
  · exact q
  · rw [if_neg q] at h; exact absurd rfl h
theorem Sat.ite {p:Prop} [Decidable p] {r:R α} (h:p→Sat C A t rel fs W r s):Sat C A t rel fs W (if p then r else .fail) s:=by
  by_cases q:p
  · rw [if_pos q]; exact h q
  · rw [if_neg q]; exact Sat.fail
theorem PR.from {r:R α} {rel:Wd→α→β→Prop} {W':Wd} {x:β} {s₁ s₂:Shared} (le:W.le W') (sm:Sm s s₁) (h:PR C rel fs W' s₁ r x s₂):PR C rel fs W s r x s₂:=by
  obtain ⟨b,os',W'',e,le',H',q',sm'⟩:=h
  exact ⟨b,os',W'',e,le.trans le',H',q',sm.trans sm'⟩
theorem PX.from {r:R α} {W':Wd} {x:Value} {s₁ s₂:Shared} (le:W.le W') (sm:Sm s s₁) (h:PX C fs W' s₁ r x s₂):PX C fs W s r x s₂:=by
  obtain ⟨m,os',W'',b,e,e',le',X,sm'⟩:=h
  exact ⟨m,os',W'',b,e,e',le.trans le',X,sm.trans sm'⟩
theorem PX.bind {r:R γ} {f:γ→List AO→R α} {x:Value} {s':Shared} (h:PX C fs W s r x s'):PX C fs W s (r.bind f) x s':=by
  obtain ⟨m,os',W',b,e,e',le',X,sm'⟩:=h
  exact ⟨m,os',W',b,by rw [e],e',le',X,sm'⟩
theorem Sat.andThen {m:Sem δ} {k:δ→Sem β} {r:R γ} {f:γ→List AO→R α} {Z:Shared→Prop} (h1:Sat C A m rel' fs W r s)
    (h2:∀ a os W' x s',W.le W'→HR C fs W' os s'.heap→rel' W' a x→Z s'∧Sat C A (k x) rel fs W' (f a os) s') (hf:r.bind f ≠ .fail) :
    wpAny (model C.prog C.w) A m (fun x s'=>Z s'∧wpAny (model C.prog C.w) A (k x) (PR C rel fs W s (r.bind f)) (PX C fs W s (r.bind f)) s') (PX C fs W s (r.bind f)) s:=by
  refine wpAny_mono (h1 (by intro q; rw [q] at hf; exact hf rfl)) (fun x s' h=>?_) fun _ _ h=>h.bind
  obtain ⟨a,os,W',e,le,H,q,sm⟩:=h
  cases e
  obtain ⟨z,h3⟩:=h2 a os W' x s' le H q
  exact ⟨z,wpAny_mono (h3 hf) (fun _ _ h=>h.from le sm) fun _ _ h=>h.from le sm⟩
theorem Sat.bind {m:Sem δ} {k:δ→Sem β} {r:R γ} {f:γ→List AO→R α} (h1:Sat C A m rel' fs W r s)
    (h2:∀ a os W' x s',W.le W'→HR C fs W' os s'.heap→rel' W' a x→Sat C A (k x) rel fs W' (f a os) s'):Sat C A (m >>= k) rel fs W (r.bind f) s:=fun hf =>
  wpAny_bind (wpAny_mono (Sat.andThen (Z:=fun _=>True) h1 (fun a os W' x s' le H q=>⟨trivial,h2 a os W' x s' le H q⟩) hf) (fun _ _ h=>h.2) fun _ _ h=>h)
theorem Sat.told {r:R α} (h:Sat C A t rel fs W r s):Sat C A t (fun W a x=>rel W a x∧∃ os,r=.ok a os) fs W r s:=fun hf =>
  wpAny_mono (h hf) (fun _ _ ⟨a,os,W',e,le,H,q,sm⟩=>⟨a,os,W',e,le,H,⟨q,os,e⟩,sm⟩) fun _ _ x=>x
theorem Sat.step {m:Sem δ} {k:δ→Sem β} {r:R α} {Q:δ→Prop}
    (h1:∀ P:δ→Shared→Prop,(∀ x s',Q x→(∀ b o,s.heap.get? b=some o→s'.heap.get? b=some o)→Sm s s'→P x s')→wpAny (model C.prog C.w) A m P (PX C fs W s r) s)
    (H:HR C fs W os s.heap)
    (h2:∀ x s',Q x→HR C fs W os s'.heap→(∀ b o,s.heap.get? b=some o→s'.heap.get? b=some o)→Sat C A (k x) rel fs W r s'):Sat C A (m >>= k) rel fs W r s:=by
  intro hf
  refine wpAny_bind (h1 _ ?_)
  intro x s' hq hk sm
  exact wpAny_mono (h2 x s' hq (H.keeps hk) hk hf) (fun _ _ h=>h.from (.refl W) sm) fun _ _ h=>h.from (.refl W) sm
theorem Sat.standAt {p:Pos} {r:R α} {k:Unit→Sem β} (h:Sat C A (k ()) rel fs W r s):Sat C A (PySem.standAt p >>= k) rel fs W r s :=
  fun hf=>wpAny_bind (wpAny_standAt (h hf))
theorem Sat.holding {vs:List Value} {r:R α} (h:Sat C A t rel fs W r s):Sat C A (PySem.holding vs t) rel fs W r s:=fun hf=>wpAny_holding (h hf)
theorem Sat.mono {r:R α} {rel2:Wd→α→β→Prop} (h:Sat C A t rel fs W r s) (hr:∀ W a x,rel W a x→rel2 W a x):Sat C A t rel2 fs W r s:=fun hf =>
  wpAny_mono (h hf) (fun _ _ ⟨a,os,W',e,le,H,q,sm⟩=>⟨a,os,W',e,le,H,hr _ _ _ q,sm⟩) fun _ _ x=>x
theorem Sat.of {r:R α} {a:α} (e:r=.ok a os) (H:HR C fs W os s.heap)
    (h:∀ (P:β→Shared→Prop) (E:Value→Shared→Prop),(∀ x s',rel W a x→(∀ b o,s.heap.get? b=some o→s'.heap.get? b=some o)→Sm s s'→P x s')→wpAny (model C.prog C.w) A t P E s):Sat C A t rel fs W r s:=by
  intro _
  subst e
  exact h _ _ fun x s' q k sm=>⟨a,os,W,rfl,.refl _,H.keeps k,q,sm⟩
end
theorem strV_beq (a b:List Nat):(strV a == strV b)=(a == b):=by
  by_cases h:a=b
  · subst h; simp
  · have:strV a ≠ strV b:=fun e=>h (by have:=congrArg (·.cps.toList) e; simpa [strV] using this)
    rw [beq_eq_false_iff_ne.mpr this,beq_eq_false_iff_ne.mpr h]
theorem strV_len (a:List Nat):(strV a).length=a.length:=by simp [strV,Str.length]
theorem strV_app (a b:List Nat):strV a++strV b=strV (a++b):=by
  show Str.append _ _=_
  simp [Str.append,strV]
theorem strV_list (a:List Nat):(strV a).cps.toList=a:=by simp [strV]
noncomputable def cmO:Cm→CmpOp
  | .eq=>.Eq | .ne=>.NotEq | .lt=>.Lt | .le=>.LtE | .gt=>.Gt | .ge=>.GtE
  | .is_=>.Is | .isNot=>.IsNot | .in_=>.In | .notIn=>.NotIn
theorem cmO_cmOf (o:CmpOp):cmO (cmOf o)=o:=by cases o<;>rfl
structure AOk (A:Around) (d:Nat):Prop where
  depth:A.depth+3 * d ≤ 800
  units:A.units+40 * d ≤ 9000
theorem AOk.lt {A:Around} {d:Nat} (h:AOk A d):A.units+100 < cLine:=by have:=h.units; unfold cLine; omega
theorem AOk.in1 {A:Around} {d:Nat} (h:AOk A (d+1)):AOk A.in1 d:=⟨by have:=h.depth; show A.depth+3 * d ≤ 800; omega,by have:=h.units; show A.units+1+40 * d ≤ 9000; omega⟩
section
variable {C:Cx} {A:Around} {fs:List FrD} {W:Wd} {os:List AO} {s:Shared} {d:Nat}
theorem flat_eqAt {a b:V} {x y:Value} (ha:VR W a x) (hb:VR W b y) (e:flatEq a b=true):SeqAt.EqAt A s x y true:=by
  cases ha with
  | none=>cases hb<;>first | exact SeqAt.EqAt.same _ | exact noTrue e
  | bool p=>cases hb<;>first | (cases eq_of_beq e; exact SeqAt.EqAt.same _) | exact noTrue e
  | int i t=>cases hb<;>first | (cases eq_of_beq e; exact fun prog w E Q hq=>wpAny_eqBool_int (by rw [beq_self_eq_true]; exact hq)) | exact noTrue e
  | str l t _=>cases hb<;>first | (cases eq_of_beq e; exact fun prog w E Q hq=>wpAny_eqBool_str (by rw [decide_eq_true rfl]; exact hq)) | exact noTrue e
  | _=>exact noTrue e
theorem flats_all {vs:List V} {xs:List Value} (ha:VRs W vs xs):∀ {ws:List V} {ys:List Value},VRs W ws ys→flatsEq vs ws=true →
    xs.length=ys.length∧∀ (j:Nat) (h1:j < xs.length) (h2:j < ys.length) (A:Around),SeqAt.EqAt A s xs[j] ys[j] true:=by
  induction vs generalizing xs with
  | nil =>
    intro ws ys hb e
    cases ha
    cases ws with
    | nil=>cases hb; exact ⟨rfl,fun j h=>absurd h (Nat.not_lt_zero _)⟩
    | cons _ _=>cases e
  | cons v vs ih =>
    intro ws ys hb e
    cases ws with
    | nil=>cases e
    | cons w ws =>
      cases ha with
      | cons a as=>cases hb with
        | cons b bs =>
          simp only [flatsEq,Bool.and_eq_true] at e
          obtain ⟨l,r⟩:=ih as bs e.2
          refine ⟨by simp [l],fun j h1 h2 A=>?_⟩
          cases j with
          | zero=>exact flat_eqAt a b e.1
          | succ j=>exact r j (by simpa using h1) (by simpa using h2) A
theorem item_eqAt {a b:V} {x y:Value} (ha:VR W a x) (hb:VR W b y) (H:HR C fs W os s.heap) (e:itemEq a b=true) (hu:A.units < cLine):SeqAt.EqAt A s x y true:=by
  cases ha with
  | tup vs a xs n m r q=>cases hb with
    | tup ws b ys n' m' r' q' =>
      by_cases hab:a=b
      · cases hab; exact SeqAt.EqAt.same _
      · obtain ⟨l,q⟩:=flats_all (s:=s) (xs:=xs) (ys:=ys) r r' e
        refine SeqAt.EqAt.of_refs hab ?_
        have:=SeqAt.RcAt.tuples (A:=A) (s:=s) (l:=a) (b:=b) (items:=xs.toArray) (items2:=ys.toArray) (e:=fun _=>true) ⟨_,H.kept _ m,rfl,_,rfl⟩ ⟨_,H.kept _ m',rfl,_,rfl⟩ hu
          (fun j h1 h2=>by simpa using q j (by simpa using h1) (by simpa using h2) A.in1)
        simp only [List.size_toArray,l,Nat.min_self,beq_self_eq_true,Bool.and_true,List.all_eq_true.mpr (fun _ _=>rfl:∀ x ∈ List.range ys.length,(fun _=>true) x=true)] at this
        exact this
    | _=>exact noTrue e
  | none=>exact flat_eqAt .none hb e
  | bool p=>exact flat_eqAt (.bool p) hb e
  | int i t=>exact flat_eqAt (.int i t) hb e
  | str l t q=>exact flat_eqAt (.str l t q) hb e
  | _=>exact noTrue e
theorem items_all {vs:List V} (H:HR C fs W os s.heap) (hu:A.units < cLine):∀ {xs:List Value},VRs W vs xs→∀ {ws:List V} {ys:List Value},VRs W ws ys→itemsEq vs ws=true →
    xs.length=ys.length∧∀ (j:Nat) (h1:j < xs.length) (h2:j < ys.length),SeqAt.EqAt A s xs[j] ys[j] true:=by
  induction vs with
  | nil =>
    intro xs ha ws ys hb e
    cases ha
    cases ws with
    | nil=>cases hb; exact ⟨rfl,fun j h=>absurd h (Nat.not_lt_zero _)⟩
    | cons _ _=>cases e
  | cons v vs ih =>
    intro xs ha ws ys hb e
    cases ws with
    | nil=>cases e
    | cons w ws =>
      cases ha with
      | cons a as=>cases hb with
        | cons b bs =>
          simp only [itemsEq,Bool.and_eq_true] at e
          obtain ⟨l,r⟩:=ih as bs e.2
          refine ⟨by simp [l],fun j h1 h2=>?_⟩
          cases j with
          | zero=>exact item_eqAt a b H e.1 hu
          | succ j=>exact r j (by simpa using h1) (by simpa using h2)
noncomputable def memOf (v:V) (x:Value):Value→Bool:=fun y=>match v,y with
  | .str l,.str z _=>z == strV l
  | .int i,.int j _=>j == i
  | _,_=>false
theorem mem_str {vs:List V} {l:List Nat} {t:Tok}:∀ {xs:List Value} {b:Bool},VRs W vs xs→memStr l vs=some b →
    xs.any (memOf (.str l) (.str (strV l) t))=b∧∀ y ∈ xs,∀ A,SeqAt.EqAt A s y (.str (strV l) t) (memOf (.str l) (.str (strV l) t) y):=by
  induction vs with
  | nil=>intro xs b h e; cases h; cases e; exact ⟨rfl,fun _ h=>nomatch h⟩
  | cons w vs ih =>
    intro xs b h e
    cases h with
    | cons p ps =>
      cases p with
      | str l' t' _ =>
        obtain ⟨b',e',rfl⟩:=Option.map_eq_some_iff.mp e
        obtain ⟨q1,q2⟩:=ih ps e'
        refine ⟨by rw [List.any_cons,q1,show memOf (.str l) (.str (strV l) t) (.str (strV l') t')=(strV l' == strV l) from rfl,strV_beq],fun y hy A=>?_⟩
        cases hy with
        | head=>exact fun prog w E Q hq=>wpAny_eqBool_str hq
        | tail _ hy=>exact q2 y hy A
      | _=>exact noSome e
theorem mem_int {vs:List V} {l:Int} {t:Tok}:∀ {xs:List Value} {b:Bool},VRs W vs xs→memInt l vs=some b →
    xs.any (memOf (.int l) (.int l t))=b∧∀ y ∈ xs,∀ A,SeqAt.EqAt A s y (.int l t) (memOf (.int l) (.int l t) y):=by
  induction vs with
  | nil=>intro xs b h e; cases h; cases e; exact ⟨rfl,fun _ h=>nomatch h⟩
  | cons w vs ih =>
    intro xs b h e
    cases h with
    | cons p ps =>
      cases p with
      | int l' t' =>
        obtain ⟨b',e',rfl⟩:=Option.map_eq_some_iff.mp e
        obtain ⟨q1,q2⟩:=ih ps e'
        refine ⟨by rw [List.any_cons,q1]; rfl,fun y hy A=>?_⟩
        cases hy with
        | head=>exact fun prog w E Q hq=>wpAny_eqBool_int hq
        | tail _ hy=>exact q2 y hy A
      | _=>exact noSome e
theorem mem_all {vs:List V} {v:V} {x:Value} (hv:VR W v x) {xs:List Value} {b:Bool} (h:VRs W vs xs) (e:memV vs v=some b) :
    xs.any (memOf v x)=b∧∀ y ∈ xs,∀ A,SeqAt.EqAt A s y x (memOf v x y):=by
  cases hv with
  | str l t q=>exact mem_str h e
  | int l t=>exact mem_int h e
  | _=>exact noSome e
theorem HR.isList (H:HR C fs W os s.heap) {i:Nat} {vs:List V} (e:os[i]?=some (.list vs)) {a:Addr} (ea:W.φ[i]?=some a):∃ xs n,s.heap.get? a=some (lstOf xs n)∧VRs W vs xs∧vs.length ≤ lim:=by
  obtain ⟨ob,h1,h2⟩:=H.objs _ _ _ e ea
  cases h2 with
  | list _ xs n r q=>exact ⟨xs,n,h1,r,q⟩
theorem isList_of {h:Heap} {a:Addr} {xs:List Value} {n:Nat} (e:h.get? a=some (lstOf xs n)):h.IsList a xs.toArray:=⟨_,e,rfl,n,rfl⟩
theorem isTuple_of {h:Heap} {a:Addr} {xs:List Value} {n:Nat} (e:h.get? a=some (tupOf xs n)):h.IsTuple a xs.toArray:=⟨_,e,rfl,n,rfl⟩
theorem found_contains (c:Nat) (y:List Nat):(!(Builtin.Str.occurrences (strV y) (strV [c]) 0 (strV y).length 1).isEmpty)=y.contains c:=by
  have:=StrLaws.found_one (strV y) c
  rw [strV_list] at this
  rw [show strV [c]=⟨#[c]⟩ from rfl,this]
  simp
theorem Sat.ofB {t:Sem Value} {o:Option Bool} (H:HR C fs W os s.heap)
    (h:∀ b,o=some b→∀ (P:Value→Shared→Prop) (E:Value→Shared→Prop),P (.bool b) s→wpAny (model C.prog C.w) A t P E s):Sat C A t VR fs W (retB os o) s :=
  Sat.opt fun b e _=>h b e _ _ ⟨.bool b,os,W,rfl,.refl _,H,.bool b,.refl s⟩
theorem isB_none {a:V} {x:Value} (ha:VR W a x):plainIs .none x=true∧plainIs x .none=true∧(Value.none == x)=a.isNone∧(x == Value.none)=a.isNone:=by
  cases ha<;>exact ⟨rfl,rfl,rfl,rfl⟩
theorem typ_eq:∀ k,k < 3→∀ m,m < 3→(Value.type (typName k) == Value.type (typName m))=(k == m):=by decide
theorem isB_bool {b:V} {y:Value} (hb:VR W b y) {p r:Bool} (e:b.bool?.map (fun q=>p == q)=some r):plainIs (.bool p) y=true∧(Value.bool p == y)=r:=by
  cases hb with
  | bool q=>cases e; cases p<;>cases q<;>exact ⟨rfl,rfl⟩
  | _=>exact noSome e
theorem isB_str {b:V} {y:Value} (hb:VR W b y) {l:Str} {t:Tok} {r:Bool} (e:b.bool?.map (fun _=>false)=some r):plainIs (.str l t) y=true∧(Value.str l t == y)=r:=by
  cases hb with
  | bool q=>cases e; exact ⟨rfl,rfl⟩
  | _=>exact noSome e
theorem isB_typ {b:V} {y:Value} (hb:VR W b y) {k:Nat} {r:Bool} (e:(b.typ?.bind fun m=>if k < 3∧m < 3 then some (k == m) else none)=some r):plainIs (.type (typName k)) y=true∧(Value.type (typName k) == y)=r:=by
  cases hb with
  | typ m =>
    obtain ⟨q,rfl⟩:=iteSome e
    exact ⟨rfl,typ_eq k q.1 m q.2⟩
  | _=>exact noSome e
theorem isNone_of {a:V} {x:Value} (ha:VR W a x) (e:a.isNone=true):x=.none:=by
  cases ha<;>first | rfl | exact noTrue e
theorem isB_is {a b:V} {x y:Value} (ha:VR W a x) (hb:VR W b y) {r:Bool} (e:isB a b=some r):plainIs x y=true∧(x == y)=r:=by
  unfold isB at e
  cases ea:a.isNone with
  | true =>
    cases isNone_of ha ea
    rw [ea] at e
    cases e
    exact ⟨(isB_none hb).1,(isB_none hb).2.2.1⟩
  | false =>
    rw [ea] at e
    cases eb:b.isNone with
    | true =>
      cases isNone_of hb eb
      rw [eb] at e
      cases e
      exact ⟨(isB_none ha).2.1,((isB_none ha).2.2.2).trans ea⟩
    | false =>
      rw [eb] at e
      cases ha with
      | bool p=>exact isB_bool hb e
      | str l t _=>exact isB_str hb e
      | typ k=>exact isB_typ hb e
      | _=>exact noSome e
theorem subB_is {y x:List Nat} {b:Bool} (e:subB y x=some b):(!(Builtin.Str.occurrences (strV y) (strV x) 0 (strV y).length 1).isEmpty)=b:=by
  cases x with
  | nil =>
    cases e
    exact (StrLaws.found_iff (strV y) (strV [])).mpr ⟨0,by simp [Builtin.Str.subAt,strV,Str.length]⟩
  | cons c r=>cases r with
    | nil=>cases e; exact found_contains c y
    | cons _ _=>cases e
theorem lists_eq {a b:V} {x y:Value} (ha:VR W a x) (hb:VR W b y) (H:HR C fs W os s.heap) (hu:A.units+2 < cLine) {r:Bool} (e:listsEq os a b=some r) :
    ∃ i j xs ys,x=.ref i∧y=.ref j∧r=true∧s.heap.IsList i xs∧s.heap.IsList j ys∧xs.size=ys.size∧(List.range xs.size).all (fun _=>true)=true∧∀ (j:Nat) (h1:j < xs.size) (h2:j < ys.size),SeqAt.EqAt A.in1 s xs[j] ys[j] true:=by
  obtain ⟨vs,e1,e⟩:=bindSome e
  obtain ⟨ws,e2,e⟩:=bindSome e
  obtain ⟨q,rfl⟩:=iteSome e
  cases H.lst? ha e1 with
  | mk i a' xs n _ _ g r _=>cases H.lst? hb e2 with
    | mk j b' ys m _ _ g' r' _ =>
      obtain ⟨l,q⟩:=items_all (A:=A.in1) H (by simp only [Around.in1_units]; omega) r r' q
      exact ⟨_,_,_,_,rfl,rfl,rfl,isList_of g,isList_of g',l,List.all_eq_true.mpr (fun _ _=>rfl),q⟩
theorem eq_is {a b:V} {x y:Value} (ha:VR W a x) (hb:VR W b y) (H:HR C fs W os s.heap) (hu:A.units+2 < cLine) {r:Bool} (e:eqB os a b=some r) {Z:Value→Shared→Prop} {E:Value→Shared→Prop} (h:Z (.bool r) s) :
    wpAny (model C.prog C.w) A (compareOp .Eq x y) Z E s:=by
  cases ha with
  | int i t =>
    obtain ⟨j,ej,e⟩:=bindSome e
    cases e
    cases hb.int? ej
    exact P.eq_int h
  | str l t _=>cases hb with
    | str l' t' _=>cases e; exact eq_str (by rw [strV_beq]; exact h)
    | none=>cases e; exact EqNone.eq_str_none h
    | _=>exact noSome e
  | none=>cases hb with
    | none=>cases e; exact EqNone.eq_none_none h
    | str _ _ _=>cases e; exact EqNone.eq_none_str h
    | _=>exact noSome e
  | obj i a ea =>
    obtain ⟨i',j,xs,ys,e1,e2,e3,g,g',l,al,q⟩:=lists_eq (.obj i a ea) hb H hu e
    cases e1
    cases e2
    cases e3
    exact SeqAt.eq_listAt (e:=fun _=>true) g g' l (by omega) q (by rw [al]; exact h)
  | _=>exact noSome e
theorem ne_is {a b:V} {x y:Value} (ha:VR W a x) (hb:VR W b y) (H:HR C fs W os s.heap) (hu:A.units+2 < cLine) {r:Bool} (e:neB os a b=some r) {Z:Value→Shared→Prop} {E:Value→Shared→Prop} (h:Z (.bool r) s) :
    wpAny (model C.prog C.w) A (compareOp .NotEq x y) Z E s:=by
  cases ha with
  | int i t =>
    obtain ⟨j,ej,e⟩:=bindSome e
    cases e
    cases hb.int? ej
    exact P.ne_int h
  | str l t _ =>
    obtain ⟨j,ej,e⟩:=bindSome e
    cases e
    cases hb.str? ej
    exact P.ne_str h
  | obj i a ea =>
    obtain ⟨b',e0,eb⟩:=bindSome e
    cases eb
    obtain ⟨i',j,xs,ys,e1,e2,e3,g,g',l,al,q⟩:=lists_eq (.obj i a ea) hb H hu e0
    cases e1
    cases e2
    cases e3
    exact SeqAt.RcNeAt.lists (e:=fun _=>true) g g' l (by omega) q C.prog C.w E Z (by rw [al]; exact h)
  | _=>exact noSome e
theorem in_is {a b:V} {x y:Value} (ha:VR W a x) (hb:VR W b y) (H:HR C fs W os s.heap) {r:Bool} (e:inB os a b=some r) {Z:Value→Shared→Prop} {E:Value→Shared→Prop} (h:Z (.bool r) s) :
    wpAny (model C.prog C.w) A (compareOp .In x y) Z E s:=by
  cases hb with
  | str l t _ =>
    obtain ⟨z,ez,e⟩:=bindSome e
    cases ha.str? ez
    exact P.in_str (by rw [subB_is e]; exact h)
  | tup vs a' xs n m q _ =>
    obtain ⟨q1,q2⟩:=mem_all (s:=s) ha q e
    exact SeqAt.in_tupleAt (memOf a x) (isTuple_of (H.kept _ m)) (fun y hy=>q2 y (List.mem_toArray.mp hy) _) (by rw [List.any_toArray,q1]; exact h)
  | obj i a' ea =>
    obtain ⟨vs,ev,e⟩:=bindSome e
    cases H.lst? (.obj i a' ea) ev with
    | mk _ _ xs n _ _ g q _ =>
      obtain ⟨q1,q2⟩:=mem_all (s:=s) ha q e
      exact SeqAt.in_listAt (memOf a x) (isList_of g) (fun y hy=>q2 y (List.mem_toArray.mp hy) _) (by rw [List.any_toArray,q1]; exact h)
  | _=>exact noSome e
theorem notIn_is {a b:V} {x y:Value} (ha:VR W a x) (hb:VR W b y) (H:HR C fs W os s.heap) {r:Bool} (e:notInB os a b=some r) {Z:Value→Shared→Prop} {E:Value→Shared→Prop} (h:Z (.bool r) s) :
    wpAny (model C.prog C.w) A (compareOp .NotIn x y) Z E s:=by
  cases hb with
  | str l t _ =>
    obtain ⟨z,ez,e⟩:=bindSome e
    cases ha.str? ez
    exact P.notIn_str (by rw [subB_is (mapNot e),Bool.not_not]; exact h)
  | obj i a' ea =>
    obtain ⟨vs,ev,e⟩:=bindSome e
    cases H.lst? (.obj i a' ea) ev with
    | mk _ _ xs n _ _ g q _ =>
      obtain ⟨q1,q2⟩:=mem_all (s:=s) ha q (mapNot e)
      exact SeqAt.notIn_listAt (memOf a x) (isList_of g) (fun y hy=>q2 y (List.mem_toArray.mp hy) _) (by rw [List.any_toArray,q1,Bool.not_not]; exact h)
  | _=>exact noSome e
theorem twoInts_is {a b:V} {x y:Value} (ha:VR W a x) (hb:VR W b y) {f:Int→Int→Bool} {r:Bool} (e:twoInts a b f=some r):∃ i t j u,x=.int i t∧y=.int j u∧f i j=r:=by
  obtain ⟨i,ei,e⟩:=bindSome e
  obtain ⟨j,ej,e⟩:=bindSome e
  cases ha.int? ei
  cases hb.int? ej
  exact ⟨_,_,_,_,rfl,rfl,Option.some.inj e⟩
theorem sat_cmp {o:Cm} {a b:V} {x y:Value} (ha:VR W a x) (hb:VR W b y) (H:HR C fs W os s.heap) (hu:A.units+2 < cLine):Sat C A (compareOp (cmO o) x y) VR fs W (cmpOp os o a b) s:=by
  refine Sat.ofB H fun r e Z E h=>?_
  cases o with
  | is_=>obtain ⟨q,rfl⟩:=isB_is ha hb e; exact wpAny_is_plain q h
  | isNot=>obtain ⟨q,q'⟩:=isB_is ha hb (mapNot e); exact wpAny_isNot_plain q (by rw [q',Bool.not_not]; exact h)
  | eq=>exact eq_is ha hb H hu e h
  | ne=>exact ne_is ha hb H hu e h
  | lt=>obtain ⟨i,t,j,u,rfl,rfl,rfl⟩:=twoInts_is ha hb e; exact P.lt_int h
  | le=>obtain ⟨i,t,j,u,rfl,rfl,rfl⟩:=twoInts_is ha hb e; exact P.le_int h
  | gt=>obtain ⟨i,t,j,u,rfl,rfl,rfl⟩:=twoInts_is ha hb e; exact P.gt_int h
  | ge=>obtain ⟨i,t,j,u,rfl,rfl,rfl⟩:=twoInts_is ha hb e; exact P.ge_int h
  | in_=>exact in_is ha hb H e h
  | notIn=>exact notIn_is ha hb H e h
end
noncomputable def opO:Op→Operator
  | .add=>.Add | .sub=>.Sub | .mul=>.Mult | .mod=>.Mod | .fdiv=>.FloorDiv | .pow=>.Pow
theorem opO_opOf {o:Operator} {p:Op} (h:opOf o=some p):opO p=o:=by cases o<;>cases h<;>rfl
theorem lim_line:lim=sizeLine:=by unfold lim sizeLine; rfl
theorem bits60 {x:Int} (h:x.natAbs < 2 ^ 60):Builtin.Int.intBits x ≤ 64:=intBits_le_64 (by omega) (by omega)
theorem fmod_emod {x y:Int} (h:0 < y):Int.fmod x y=x % y:=Int.fmod_eq_emod_of_nonneg x (Int.le_of_lt h)
theorem fdiv_ediv {x y:Int} (h:0 < y):Int.fdiv x y=x / y:=Int.fdiv_eq_ediv_of_nonneg x (Int.le_of_lt h)
theorem noPylong {x y:Int} (h:0 < y) (h':y < 2 ^ 60):Builtin.divisionGoesByPylong x y=false:=by
  unfold Builtin.divisionGoesByPylong
  have hy:(y == 0)=false:=by rw [beq_eq_false_iff_ne]; omega
  simp only [hy,Bool.false_eq_true,if_false]
  have:y.natAbs.log2 < 60:=(Nat.log2_lt (by omega)).mpr (by omega)
  have:¬ (y.natAbs.log2 / 30+1 > 300):=by omega
  simp [this]
theorem pow_small {x y:Int} (hx:2 ≤ x) (hx':x < 128) (hy:1 ≤ y) (hy':y ≤ 100):¬ Builtin.Int.intTooBig (((Builtin.Int.intBits x:Nat):Int) * y)=true:=by
  have hb:Builtin.Int.intBits x ≤ 64:=bits60 (by omega)
  have:((Builtin.Int.intBits x:Nat):Int) * y ≤ 64 * 100:=Int.mul_le_mul (by omega) (by omega) (by omega) (by omega)
  unfold Builtin.Int.intTooBig
  rw [decide_eq_true_eq]
  have:(6400:Int) ≤ bitsLine:=by decide
  omega
section
variable {prog:Program} {w:World} {A:Around} {E:Value→Shared→Prop} {s:Shared}
theorem addL {l b:Addr} {xs ys:List Value} {n n':Nat} {Q:Value→Shared→Prop} (hl:s.heap.get? l=some (lstOf xs n)) (hb:s.heap.get? b=some (lstOf ys n')) (hsz:xs.length+ys.length ≤ sizeLine)
    (h:Q (.ref s.heap.objs.size) { s with heap:=s.heap.push (lstOf (xs++ys) 0) }):wpAny (model prog w) A (binaryOp .Add (.ref l) (.ref b)) Q E s:=by
  have e:xs.toArray++ys.toArray=(xs++ys).toArray:=by simp
  refine concat_meets ⟨_,hl,rfl⟩ ⟨_,hb,rfl⟩ noFill_list_add seq_list_add PySem.F.slot_list_add PySem.F.entry_list_add (PySem.F.args_list_add_2 _ _) (list_addW l b xs.toArray ys.toArray n n' none none #[] #[] (by simpa using hsz)) ⟨hl,hb,?_⟩
  rw [e]
  exact h
theorem foldRep (items:Array Value):∀ (n:Nat) (acc:Array Value),List.foldl (fun x1 x2=>x1++x2) acc (List.replicate n items)=acc++((List.replicate n items.toList).flatten).toArray
  | 0,acc=>by simp
  | n+1,acc=>by rw [List.replicate_succ,List.foldl_cons,foldRep items n]; apply Array.ext'; simp [List.replicate_succ]
theorem mulG {l:Addr} {items:Array Value} {k:Nat} {x:Int} {u:Tok} {Q:Value→Shared→Prop}
    (hl:s.heap.get? l=some { cls:=.type "list",dict:=none,data:=.seq items k,slots:=#[] })
    (hlo:-(2 ^ 63:Int) ≤ x) (hhi:x < 2 ^ 63) (hsz:items.size * x.toNat ≤ 2 ^ 24)
    (h:Q (.ref s.heap.objs.size) { s with heap:=s.heap.push { cls:=.type "list",data:=.seq (List.foldl (fun x1 x2=>x1++x2) #[] (List.replicate (if items.isEmpty=true then 0 else x.toNat) items)) } }) :
    wpAny (model prog w) A (binaryOp .Mult (.ref l) (.int x u)) Q E s :=
  wpAny_binaryOp_repeat_ref (T:="list") (U:="int") (by decide) ⟨_,hl,rfl⟩ (fun s'=>typeIs_int s' x u) noFill_list_mul F.fills_int_mul F.slot_int_rmul repeat_list F.slot_int_index.lookup
    (call_meets F.slot_int_rmul (typeIs_int s x u) F.entry_int_rmul (F.args_int_rmul_2 _ _) (int___rmul___int_list x u l items k)
      ⟨hl,rfl,⟨_,hl,rfl⟩,call_meets F.slot_list_mul ⟨_,hl,rfl⟩ F.entry_list_mul (F.args_list_mul_2 _ _)
        (AutoListH.list___mul___list_int_3 l items k x u (by simp [Builtin.List.listFitsIndex]; omega) (by omega) (by simp [Builtin.List.listTooLong,sizeLine]; omega))
        ⟨hl,h⟩⟩)
theorem mulL {l:Addr} {v:Value} {n:Nat} {x:Int} {u:Tok} {Q:Value→Shared→Prop} (hl:s.heap.get? l=some (lstOf [v] n)) (hlo:0 ≤ x) (hhi:x ≤ 100000)
    (h:Q (.ref s.heap.objs.size) { s with heap:=s.heap.push (lstOf (List.replicate x.toNat v) 0) }):wpAny (model prog w) A (binaryOp .Mult (.ref l) (.int x u)) Q E s:=by
  have e:List.foldl (fun x1 x2=>x1++x2) #[] (List.replicate (if (#[v]:Array Value).isEmpty=true then 0 else x.toNat) (#[v]:Array Value))=(List.replicate x.toNat v).toArray:=by
    rw [foldRep]
    simp
  refine mulG hl (by omega) (by omega) (by show 1 * x.toNat ≤ _; omega) ?_
  rw [e]
  exact h
end
section
variable {C:Cx} {A:Around} {fs:List FrD} {W:Wd} {os:List AO} {s:Shared} {d:Nat}
theorem Sm.toks (s:Shared) (t:Nat):Sm s { s with toks:=t }:=⟨rfl,rfl,rfl⟩
theorem Sat.made {t:Sem Value} {ao:AO} {o:Obj} (H:HR C fs W os s.heap) (r:OR C ⟨W.φ++[s.heap.objs.size],W.kp⟩ ao o)
    (h:∀ (Q:Value→Shared→Prop) (E:Value→Shared→Prop),(∀ tk,Q (.ref s.heap.objs.size) { s with heap:=s.heap.push o,toks:=tk })→wpAny (model C.prog C.w) A t Q E s) :
    Sat C A t VR fs W (.ok (.obj os.length) (os++[ao])) s:=fun _=>h _ _ fun tk =>
  ⟨.obj os.length,os++[ao],_,rfl,leN W _,H.new r,.obj _ _ (by simp [H.len]),⟨rfl,rfl,rfl⟩⟩
theorem Sat.madeK {t:Sem Value} {v:V} {o:Obj} (H:HR C fs W os s.heap) (hf:o.isFreed=false) (r:VR ⟨W.φ,(s.heap.objs.size,o) :: W.kp⟩ v (.ref s.heap.objs.size))
    (h:∀ (Q:Value→Shared→Prop) (E:Value→Shared→Prop),(∀ tk,Q (.ref s.heap.objs.size) { s with heap:=s.heap.push o,toks:=tk })→wpAny (model C.prog C.w) A t Q E s) :
    Sat C A t VR fs W (.ok v os) s:=fun _=>h _ _ fun tk =>
  ⟨v,os,_,rfl,leK W _,H.keep o hf,r,⟨rfl,rfl,rfl⟩⟩
noncomputable def binT (inpl:Bool) (o:Operator) (x y:Value):Sem Value:=match inpl with
  | true=>inplaceOp o x y
  | false=>binaryOp o x y
theorem Sat.ofI {t:Sem Value} {i:Int} (H:HR C fs W os s.heap) (h:∀ (P:Value→Shared→Prop) (E:Value→Shared→Prop),(∀ tk k,P (.int i tk) { s with toks:=k })→wpAny (model C.prog C.w) A t P E s):Sat C A t VR fs W (.ok (.int i) os) s :=
  fun _=>h _ _ fun tk k=>⟨.int i,os,W,rfl,.refl _,H,.int i tk,.toks s k⟩
theorem Sat.ofS {t:Sem Value} {l:List Nat} (H:HR C fs W os s.heap) (hl:l.length ≤ lim) (h:∀ (P:Value→Shared→Prop) (E:Value→Shared→Prop),(∀ tk k,P (.str (strV l) tk) { s with toks:=k })→wpAny (model C.prog C.w) A t P E s):Sat C A t VR fs W (.ok (.str l) os) s :=
  fun _=>h _ _ fun tk k=>⟨.str l,os,W,rfl,.refl _,H,.str l tk hl,.toks s k⟩
theorem and_of {a b:Bool} (h:(a&&b)=true):a=true∧b=true:=Bool.and_eq_true_iff.mp h
theorem sat_int {o:Op} {x y:Int} {t u:Tok} (H:HR C fs W os s.heap) (inpl:Bool):Sat C A (binT inpl (opO o) (.int x t) (.int y u)) VR fs W (intOp os o x y) s:=by
  cases o with
  | add=>cases inpl with
    | false=>exact Sat.ofI H fun Z E h=>P.add_int (h _ _)
    | true=>exact Sat.ofI H fun Z E h=>P.iadd_int (h _ _)
  | sub=>cases inpl with
    | false=>exact Sat.ofI H fun Z E h=>P.sub_int (h _ _)
    | true=>exact Sat.ofI H fun Z E h=>P.isub_int (h _ _)
  | mul =>
    refine Sat.ite fun q=>?_
    have q:=of_decide_eq_true (and_of q).1
    cases inpl with
    | false=>exact Sat.ofI H fun Z E h=>P.mul_int (h _ _) (IntMulOk.of_left (bits60 q))
    | true=>exact Sat.ofI H fun Z E h=>P.imul_int (h _ _) (IntMulOk.of_left (bits60 q))
  | mod =>
    refine Sat.ite fun q=>?_
    rw [← fmod_emod q]
    have q0:y ≠ 0:=fun e=>absurd q (e ▸ Int.lt_irrefl 0)
    cases inpl with
    | false=>exact Sat.ofI H fun Z E h=>mod_int' q0 (h _ _)
    | true=>exact Sat.ofI H fun Z E h=>AutoIntOps.imod_1 (by simp [q0]) (h _ _)
  | fdiv =>
    refine Sat.ite fun q=>?_
    obtain ⟨q,q2⟩:=and_of q
    have q:=of_decide_eq_true q
    have np:=noPylong (x:=x) q (of_decide_eq_true q2)
    clear q2
    rw [← fdiv_ediv q]
    have q0:y ≠ 0:=fun e=>absurd q (e ▸ Int.lt_irrefl 0)
    cases inpl with
    | false=>exact Sat.ofI H fun Z E h=>floordiv_int q0 (h _ _) (.inl np)
    | true=>exact Sat.ofI H fun Z E h=>AutoIntOps.ifloordiv_1 (by simp [q0]) (by rw [np]; exact Bool.false_ne_true) (h _ _)
  | pow =>
    refine Sat.ite fun q=>?_
    obtain ⟨q,q4⟩:=and_of q
    obtain ⟨q,q3⟩:=and_of q
    obtain ⟨q1,q2⟩:=and_of q
    have q1:=of_decide_eq_true q1
    have q2:=of_decide_eq_true q2
    have q3:=of_decide_eq_true q3
    have q4:=of_decide_eq_true q4
    have ps:=pow_small q1 q2 q3 q4
    have p1:0 ≤ y:=Int.le_trans (by decide) q3
    have p2:x ≠ 0:=fun e=>absurd q1 (e ▸ by decide)
    have p3:x ≠ 1:=fun e=>absurd q1 (e ▸ by decide)
    have p5:x ≠ -1:=fun e=>absurd q1 (e ▸ by decide)
    have p4:y ≠ 0:=fun e=>absurd q3 (e ▸ by decide)
    clear q q1 q2 q3 q4
    cases inpl with
    | false=>exact Sat.ofI H fun Z E h=>AutoIntOps.pow_4 (by omega) (by simp [p2,p3,p4,p5]) (by simp [p2,p3,p4,p5]) (by simp [p2,p3,p4,p5]) ps (h _ _)
    | true=>exact Sat.ofI H fun Z E h=>AutoIntOps.ipow_4 (by omega) (by simp [p2,p3,p4,p5]) (by simp [p2,p3,p4,p5]) (by simp [p2,p3,p4,p5]) ps (h _ _)
theorem sat_list {o:Op} {vs:List V} {b:V} {y:Value} {i:Nat} {a:Addr} {xs:List Value} {n:Nat} (H:HR C fs W os s.heap) (g:s.heap.get? a=some (lstOf xs n)) (r:VRs W vs xs) (hb:VR W b y) :
    Sat C A (binaryOp (opO o) (.ref a) y) VR fs W (listOp os o vs b) s:=by
  cases o with
  | add =>
    refine Sat.opt fun ws ew=>Sat.ite fun q=>?_
    cases H.lst? hb ew with
    | mk j b' ys m _ _ g' r' _ =>
      exact Sat.made H (.list _ _ _ ((r.append r').mono (leN W _)) (by rw [List.length_append]; exact q)) fun Q E hQ=>addL g g' (by rw [r.length,r'.length,← lim_line]; exact q) (hQ _)
  | mul =>
    refine Sat.opt fun k ek=>Sat.opt fun v ev=>Sat.ite fun q=>?_
    cases hb.int? ek
    cases r.one ev with
    | mk x p =>
      cases one_is ev
      obtain ⟨q1,q2⟩:=and_of q
      have q1:=of_decide_eq_true q1
      have q2:=of_decide_eq_true q2
      exact Sat.made H (.list _ _ _ ((VRs.replicate p _).mono (leN W _)) (by rw [List.length_replicate]; exact Nat.le_trans (Int.toNat_le.mpr q2) (by decide))) fun Q E hQ=>mulL g q1 q2 (hQ _)
  | _=>exact Sat.fail
theorem sat_bin {o:Op} {a b:V} {x y:Value} (ha:VR W a x) (hb:VR W b y) (H:HR C fs W os s.heap) (inpl:Bool) (hi:inpl=true→∀ i,a ≠ .obj i) :
    Sat C A (binT inpl (opO o) x y) VR fs W (binOp os o a b) s:=by
  cases ha with
  | int i t =>
    refine Sat.opt fun j ej=>?_
    cases hb.int? ej
    exact sat_int H inpl
  | str l t _ =>
    refine Sat.opt fun j ej=>?_
    cases hb.str? ej with
    | mk u _=>cases o with
      | add =>
        refine Sat.ite fun q=>Sat.ofS H (by rw [List.length_append]; exact q) fun Z E h=>?_
        rw [← strV_app] at h
        have hz:(strV l).length+(strV j).length ≤ sizeLine:=by rw [strV_len,strV_len,← lim_line]; exact q
        cases inpl with
        | false=>exact add_str (fun _ _=>h _ _) hz
        | true=>exact SB.iadd (fun _ _=>h _ _) hz
      | _=>exact Sat.fail
  | obj i a ea =>
    cases inpl with
    | true=>exact absurd rfl (hi rfl i)
    | false =>
      refine Sat.opt fun vs ev=>?_
      cases H.lst? (.obj i a ea) ev with
      | mk _ _ xs n _ _ g r _=>exact sat_list (i:=i) H g r hb
  | _=>exact Sat.fail
theorem seqIdx {k:Int} {n:Nat} (h0:0 ≤ k) (hn:k.toNat < n):seqIndex? k n=some k.toNat:=seqIndex_of h0 (by omega)
theorem clip_eq (n:Nat) (i:Int):max 0 (min (if i < 0 then i+n else i) (n:Int))=((clip n i:Nat):Int):=by
  unfold clip
  by_cases h:i < 0
  · rw [if_pos h,if_pos h,Int.ofNat_toNat,Int.min_eq_left (Int.le_of_lt (Int.lt_of_lt_of_le (Int.add_lt_add_right h n) (Int.le_of_eq (Int.zero_add _)))),Int.max_comm]
  · rw [if_neg h,if_neg h]
    obtain ⟨k,e⟩:=Int.eq_ofNat_of_zero_le (Int.not_lt.mp h)
    rw [e,Int.toNat_natCast,Lean.Omega.Int.ofNat_min,Int.max_eq_right (Int.le_min.mpr ⟨Int.natCast_nonneg k,Int.natCast_nonneg n⟩)]
theorem clip_le (n:Nat) (i:Int):clip n i ≤ n:=by
  refine Int.ofNat_le.mp ?_
  rw [← clip_eq]
  exact Int.max_le.mpr ⟨Int.natCast_nonneg n,Int.min_le_right _ _⟩
noncomputable def edge (n d:Nat):Option Int→Nat
  | none=>d
  | some i=>clip n i
theorem edge_le {n d:Nat} (h:d ≤ n) (i:Option Int):edge n d i ≤ n:=by
  cases i with
  | none=>exact h
  | some i=>exact clip_le n i
theorem sliceSpan (n:Nat) (lo hi:Option Int):∃ p q:Nat,p=edge n 0 lo∧q=edge n n hi∧p ≤ n∧q ≤ n ∧
    sliceBounds lo hi none n=((p:Int),(q:Int),1)∧Builtin.Str.strSliceIndices lo hi 1 n=(List.range (q - p)).map (p+·):=by
  have b:sliceBounds lo hi none n=(((edge n 0 lo:Nat):Int),((edge n n hi:Nat):Int),1):=by
    cases lo with
    | none=>cases hi with
      | none=>rfl
      | some j=>exact congrArg (fun y=>((0:Int),y,(1:Int))) (clip_eq n j)
    | some i=>cases hi with
      | none=>exact congrArg (fun y=>(y,(n:Int),(1:Int))) (clip_eq n i)
      | some j=>exact congr (congrArg (fun x y=>(x,y,(1:Int))) (clip_eq n i)) (clip_eq n j)
  have c:Builtin.Str.strSliceIndices lo hi 1 n=sliceRange ((edge n 0 lo:Nat):Int) ((edge n n hi:Nat):Int) 1:=by
    cases lo with
    | none=>cases hi with
      | none=>rfl
      | some j=>exact congrArg (fun y=>sliceRange (0:Int) y 1) (clip_eq n j)
    | some i=>cases hi with
      | none=>exact congrArg (fun y=>sliceRange y (n:Int) 1) (clip_eq n i)
      | some j=>exact congr (congrArg (fun x y=>sliceRange x y 1) (clip_eq n i)) (clip_eq n j)
  exact ⟨_,_,rfl,rfl,edge_le (Nat.zero_le n) lo,edge_le (Nat.le_refl n) hi,b,c.trans (sliceRange_one _ _)⟩
end
theorem lim63 {n:Nat} (h:n ≤ lim):(n:Int) < 2 ^ 63:=by unfold lim at h; omega
section
variable {C:Cx} {A:Around} {fs:List FrD} {W:Wd} {os:List AO} {s:Shared} {d:Nat}
theorem DObj.at {K:Type} [DecidableEq K] {knd:KeyKind C.prog C.w K} {o:Obj} {kvs:List (K × Value)} (x:DObj knd o kvs) {h:Heap} {a:Addr} (g:h.get? a=some o):h.DictOf knd a kvs:=by
  obtain ⟨es,ep,q1,q2,q3,q4,q5⟩:=x
  exact ⟨o,es,ep,g,q1,q2,q3,q4,q5⟩
theorem DObj.of {K:Type} [DecidableEq K] {knd:KeyKind C.prog C.w K} {kvs:List (K × Value)} {h:Heap} {a:Addr} (x:h.DictOf knd a kvs):∃ o,h.get? a=some o∧DObj knd o kvs:=by
  obtain ⟨o,es,ep,g,q1,q2,q3,q4,q5⟩:=x
  exact ⟨o,g,es,ep,q1,q2,q3,q4,q5⟩
theorem DR.find {l:List (List Nat × V)} {es:List (Str × Value)} (r:DR W l es) {k:List Nat} {v:V} (e:lookS k l=some v):∃ y,valueAt es (strV k)=some y∧VR W v y:=by
  induction r with
  | nil=>cases e
  | @cons a w l es y p ps ih =>
    unfold valueAt at ih ⊢
    rw [List.find?_cons]
    unfold lookS at e
    by_cases h:k=a
    · subst h
      simp at e ⊢
      subst e
      exact p
    · have hb:(k == a)=false:=by simpa using h
      have hs:¬ (strV a=strV k):=fun q=>h (by have:=congrArg (·.cps.toList) q; simpa [strV] using this.symm)
      rw [hb] at e
      simp only [hs,decide_false]
      exact ih (by simpa using e)
theorem sat_tail {value slice:Expr} {o i:Value} {ops:List Value} {T id:String} {r:R V} (hT:s.TypeIs o T) (hl:typeLookup (.type T) "__getitem__"=pure (some (.builtin id)))
    (hs:subscripted slice false o i=operate ops (getItem o i)) (h:Sat C A (getItem o i) VR fs W r s):Sat C A (subscriptTail value slice o i) VR fs W r s:=fun hf=>tail_any hT hl (h hf) hs
noncomputable def Got (C:Cx) (A:Around) (fs:List FrD) (W:Wd) (x y:Value) (r:R V) (s:Shared):Prop :=
  Sat C A (getItem x y) VR fs W r s∧(r ≠ .fail→∃ T id,s.TypeIs x T∧typeLookup (.type T) "__getitem__"=pure (some (.builtin id)))
theorem Got.no {x y:Value}:Got C A fs W x y .fail s:=⟨Sat.fail,fun h=>absurd rfl h⟩
theorem Got.opt {γ:Type} {x y:Value} {o:Option γ} {f:γ→R V} (h:∀ a,o=some a→Got C A fs W x y (f a) s):Got C A fs W x y (R.opt o f) s:=by
  cases o with
  | none=>exact Got.no
  | some a=>exact h a rfl
theorem Sat.ofV {t:Sem Value} {v:V} {x:Value} (H:HR C fs W os s.heap) (q:VR W v x) (h:∀ (Z:Value→Shared→Prop) (E:Value→Shared→Prop),(∀ k,Z x { s with toks:=k })→wpAny (model C.prog C.w) A t Z E s):Sat C A t VR fs W (.ok v os) s :=
  fun _=>h _ _ fun k=>⟨v,os,W,rfl,.refl _,H,q,.toks s k⟩
theorem get_list {vs:List V} {xs:List Value} {n:Nat} {a:Addr} {k:Int} {u:Tok} (H:HR C fs W os s.heap) (g:s.heap.get? a=some (lstOf xs n)) (r:VRs W vs xs) (l:vs.length ≤ lim):Got C A fs W (.ref a) (.int k u) (getAt os vs k) s :=
  ⟨Sat.ite fun h0=>Sat.opt fun v e=>by
    obtain ⟨y,e1,e2⟩:=r.get e
    exact Sat.ofV H e2 fun Z E hZ=>wpAny_getItem_list (x:=y) (isList_of g) h0 (by have:=lim63 l; have:=(List.getElem?_eq_some_iff.mp e).1; omega) (by simpa using e1) (hZ _),fun _=>⟨"list",_,⟨_,g,rfl⟩,slot_list_getitem.lookup⟩⟩
theorem get_tup {vs:List V} {xs:List Value} {n:Nat} {a:Addr} {k:Int} {u:Tok} (H:HR C fs W os s.heap) (g:s.heap.get? a=some (tupOf xs n)) (r:VRs W vs xs) (l:vs.length ≤ lim):Got C A fs W (.ref a) (.int k u) (getAt os vs k) s :=
  ⟨Sat.ite fun h0=>Sat.opt fun v e=>by
    obtain ⟨y,e1,e2⟩:=r.get e
    have hlt:=(List.getElem?_eq_some_iff.mp e).1
    have:=lim63 l
    exact Sat.ofV H e2 fun Z E hZ=>getItem_tuple (x:=y) (j:=k.toNat) ⟨_,g,rfl,_,rfl⟩ (by omega) (by omega) (by rw [List.size_toArray,r.length,seqIdx h0 hlt]) (by simpa using e1) (hZ _),fun _=>⟨"tuple",_,⟨_,g,rfl⟩,slot_tuple_getitem.lookup⟩⟩
theorem one_lim {c:Nat}:[c].length ≤ lim:=(by decide:1 ≤ lim)
theorem get_str {l:List Nat} {t:Tok} {k:Int} {u:Tok} (H:HR C fs W os s.heap) (hl:l.length ≤ lim):Got C A fs W (.str (strV l) t) (.int k u) (idxInt os k (.str l)) s :=
  ⟨Sat.ite fun h0=>Sat.opt fun c e=>by
    have hlt:=(List.getElem?_eq_some_iff.mp e).1
    have:=lim63 hl
    exact Sat.ofS (l:=[c]) H one_lim fun Z E hZ=>P.getItem_str (c:=c) (by rw [decide_eq_false (by omega),decide_eq_false (by omega)]; rfl) (by rw [strV_len,seqIdx h0 hlt]; simpa [strV] using e) (hZ _ _),fun _=>⟨"str",_,typeIs_str _ _ _,F.slot_str_getitem.lookup⟩⟩
theorem get_dict {a:V} {x:Value} {k:List Nat} {u:Tok} (H:HR C fs W os s.heap) (ha:VR W a x):Got C A fs W x (.str (strV k) u) (idxOp os a (.str k)) s :=
  Got.opt fun l el=>by
    obtain ⟨o,e1,e2⟩:=bindSome el
    cases AO.dict_of e2
    cases H.obj? ha e1 with
    | mk i a ob _ _ g q=>cases q with
      | dict _ es _ r q =>
        have hd:=q.at g
        exact ⟨Sat.opt fun v e=>by
          obtain ⟨y,e1,e2⟩:=r.find e
          exact Sat.ofV H e2 fun Z E hZ=>wpAny_getItem_of (strKind_is C.prog C.w _ _) hd.mapOf e1 (hZ _),fun _=>⟨"dict",_,hd.typeIs,slot_dict_getitem.lookup⟩⟩
theorem sat_getItem {a b:V} {x y:Value} (ha:VR W a x) (hb:VR W b y) (H:HR C fs W os s.heap):Got C A fs W x y (idxOp os a b) s:=by
  cases hb with
  | int k u=>cases ha with
    | str l t hl=>exact get_str H hl
    | tup vs a xs n m r l=>exact get_tup H (H.kept _ m) r l
    | obj i a ea =>
      refine Got.opt fun vs ev=>?_
      cases H.lst? (.obj i a ea) ev with
      | mk _ _ xs n _ _ g r l=>exact get_list H g r l
    | _=>exact Got.no
  | str k u _=>exact get_dict H ha
  | _=>exact Got.no
inductive Bd (n d:Nat):V→Value→Option (Int × Tok)→Nat→Prop
  | none:Bd n d .none .none none d
  | int (i:Int) (t:Tok):i.natAbs < 2 ^ 60→Bd n d (.int i) (.int i t) (some (i,t)) (clip n i)
set_option tactic.hygienic true in
theorem bound_bd {n d p:Nat} {v:V} {x:Value} (hv:VR W v x) (e:bound n d v=some p):∃ o,Bd n d v x o p:=by
  cases hv<;>try (cases e; done)
  · cases e; exact ⟨_,.none⟩
  · rename_i i t
    by_cases h:i.natAbs < 2 ^ 60
    · simp only [bound,h,if_true] at e; cases e; exact ⟨_,.int i t h⟩
    · simp only [bound,h,if_false] at e; cases e
theorem Bd.part {n d p:Nat} {v:V} {x:Value} {o:Option (Int × Tok)} (b:Bd n d v x o p):x=partValue o∧IsPart x (o.map (·.1))∧p=edge n d (o.map (·.1)):=by
  cases b with
  | none=>exact ⟨rfl,.none,rfl⟩
  | int i t h=>exact ⟨rfl,.int i t,rfl⟩
theorem str_span (x:List Nat) (lo hi:Option Int) (p q:Nat) (hp:p ≤ x.length) (e:Builtin.Str.strSliceIndices lo hi 1 x.length=(List.range (q - p)).map (p+·)) :
    ((Builtin.Str.strSliceIndices lo hi 1 x.length).filterMap ((strV x).cps[·]?))=(x.take q).drop p:=by
  rw [e,pick_run]
  simp [strV,List.drop_take]
theorem span_of {n p q:Nat} {lo hi:V} {y z:Value} (hlo:VR W lo y) (hhi:VR W hi z) (e1:bound n 0 lo=some p) (e2:bound n n hi=some q) :
    ∃ o1 o2,Bd n 0 lo y o1 p∧Bd n n hi z o2 q∧p ≤ n∧q ≤ n∧sliceBounds (o1.map (·.1)) (o2.map (·.1)) none n=((p:Int),(q:Int),1)∧Builtin.Str.strSliceIndices (o1.map (·.1)) (o2.map (·.1)) 1 n=(List.range (q - p)).map (p+·):=by
  obtain ⟨o1,b1⟩:=bound_bd hlo e1
  obtain ⟨o2,b2⟩:=bound_bd hhi e2
  obtain ⟨p',q',hp,hq,hpn,hqn,h1,h2⟩:=sliceSpan n (o1.map (·.1)) (o2.map (·.1))
  cases hp.trans b1.part.2.2.symm
  cases hq.trans b2.part.2.2.symm
  exact ⟨o1,o2,b1,b2,hpn,hqn,h1,h2⟩
theorem full_cut {x:List Nat} {p q:Nat} (h:q - p=x.length) (hp:p ≤ x.length) (hq:q ≤ x.length):(x.take q).drop p=x:=by
  refine List.Sublist.eq_of_length_le ((List.drop_sublist _ _).trans (List.take_sublist _ _)) ?_
  rw [List.length_drop,List.length_take]
  omega
theorem slice_list {value:Expr} {vs:List V} {lo hi:V} {y z:Value} {l u:Option Expr} {p:Pos} {sb a:Addr} {xs:List Value} {n:Nat} (g:s.heap.get? a=some (lstOf xs n)) (r:VRs W vs xs) (hl:vs.length ≤ lim) (hlo:VR W lo y) (hhi:VR W hi z) (H:HR C fs W os s.heap) (sl:s.heap.IsSliceOf sb y z .none) :
    Sat C A (subscriptTail value (.Slice l u none p) (.ref a) (.ref sb)) VR fs W (cutList os vs lo hi) s :=
  Sat.opt fun p e1=>Sat.opt fun q e2=>by
    obtain ⟨o1,o2,b1,b2,hpn,hqn,h1,h2⟩:=span_of hlo hhi e1 e2
    refine sat_tail ⟨_,g,rfl⟩ slot_list_getitem.lookup rfl ?_
    have e:slicePick xs.toArray (o1.map (·.1)) (o2.map (·.1)) none=((xs.take q).drop p).toArray:=by
      unfold slicePick
      rw [List.size_toArray,r.length,h1]
      refine (congrArg (fun l=>(l.filterMap (xs.toArray[·]?)).toArray) (sliceRange_one p q)).trans ?_
      rw [pick_run,List.drop_take]
    refine Sat.made H (.list _ ((xs.take q).drop p) 0 (((r.take q).drop p).mono (leN W _)) (by rw [List.length_drop,List.length_take]; omega)) fun Q E hQ=>wpAny_getItem_list_slice (isList_of g) sl b1.part.2.1 b2.part.2.1 .none (by simp) (by rw [e]; exact hQ _) (by
      rw [List.size_toArray,r.length,← lim_line]; exact hl)
set_option tactic.hygienic true in
theorem slice_str {value:Expr} {x:List Nat} {t:Tok} {lo hi:V} {y z:Value} {l u:Option Expr} {p:Pos} {sb:Addr} (hl:x.length ≤ lim) (hlo:VR W lo y) (hhi:VR W hi z) (H:HR C fs W os s.heap) (sl:s.heap.IsSliceOf sb y z .none) :
    Sat C A (subscriptTail value (.Slice l u none p) (.str (strV x) t) (.ref sb)) VR fs W (sliceOp os (.str x) lo hi) s :=
  Sat.opt fun p e1=>Sat.opt fun q e2=>by
    obtain ⟨o1,o2,b1,b2,hpn,hqn,h1,h2⟩:=span_of hlo hhi e1 e2
    refine sat_tail (typeIs_str _ _ _) F.slot_str_getitem.lookup rfl ?_
    have hz:((x.take q).drop p).length ≤ lim:=by rw [List.length_drop,List.length_take]; omega
    refine Sat.ofS H hz fun Z E hZ=>wpAny_getItem_str_slice (l:=o1) (u:=o2) (st:=none) (by
      obtain ⟨o,a,b,c⟩:=sl
      exact ⟨o,a,b,by rw [c,← b1.part.1,← b2.part.1]; rfl⟩) rfl ?_
    have hs:=str_span x _ _ p q hpn h2
    unfold sliceMade slicePicked
    rw [strV_len]
    split
    · rename_i hfull
      have hl2:=congrArg List.length h2
      rw [List.length_map,List.length_range] at hl2
      have hc:=full_cut (hl2.symm.trans (eq_of_beq (and_of hfull).2)) hpn hqn
      rw [hc] at hZ
      exact hZ _ _
    · refine ⟨?_,?_⟩
      · show (Builtin.Str.strSliceIndices (o1.map (·.1)) (o2.map (·.1)) 1 x.length |>.filterMap ((strV x).cps[·]?)).toArray.size ≤ sizeLine
        rw [hs,List.size_toArray,← lim_line]; exact hz
      · show Z (.str ⟨(Builtin.Str.strSliceIndices (o1.map (·.1)) (o2.map (·.1)) 1 x.length |>.filterMap ((strV x).cps[·]?)).toArray⟩ _) _
        rw [hs]
        exact hZ _ _
theorem sat_slice {value:Expr} {a lo hi:V} {x y z:Value} {l u:Option Expr} {p:Pos} {sb:Addr} (ha:VR W a x) (hlo:VR W lo y) (hhi:VR W hi z) (H:HR C fs W os s.heap) (sl:s.heap.IsSliceOf sb y z .none) :
    Sat C A (subscriptTail value (.Slice l u none p) x (.ref sb)) VR fs W (sliceOp os a lo hi) s:=by
  cases ha with
  | str x t hl=>exact slice_str hl hlo hhi H sl
  | lst vs a xs n m r hl=>exact slice_list (H.kept _ m) r hl hlo hhi H sl
  | obj i a ea =>
    refine Sat.opt fun vs ev=>?_
    cases H.lst? (.obj i a ea) ev with
    | mk _ _ xs n _ _ g r l=>exact slice_list g r l hlo hhi H sl
  | _=>exact Sat.fail
end
end Mine
end
section
open PySem PySem.W PySem.Calls PyProof.Rows
set_option tactic.hygienic false
namespace Mine
open PySem.Builtin.Str (occurrences)
theorem idxC_spec (c:Nat):∀ (l:List Nat) (k:Nat),((∀ j:Nat,l[j]? ≠ some c)∧idxC c l k=-1) ∨ ∃ j:Nat,l[j]?=some c∧(∀ j':Nat,j' < j→l[j']? ≠ some c)∧idxC c l k=((k+j:Nat):Int)
  | [],k=>.inl ⟨fun j=>by simp,rfl⟩
  | y :: ys,k=>by
    by_cases h:y=c
    · exact .inr ⟨0,by simp [h],fun j' h'=>absurd h' (Nat.not_lt_zero _),by simp [idxC,h]⟩
    · rcases idxC_spec c ys (k+1) with ⟨a,b⟩ | ⟨j,a,b,d⟩
      · refine .inl ⟨fun j=>?_,by simp [idxC,h,b]⟩
        cases j with
        | zero=>simpa using h
        | succ j=>simpa using a j
      · refine .inr ⟨j+1,by simpa using a,fun j' h'=>?_,by simp only [idxC,beq_eq_false_iff_ne.mpr h,Bool.false_eq_true,if_false,d]; omega⟩
        cases j' with
        | zero=>simpa using h
        | succ j'=>simpa using b j' (by omega)
theorem find_is (c:Nat) (x:List Nat) (lo hi:Nat) (hh:hi ≤ x.length) :
    (match occurrences (strV x) (strV [c]) lo hi 1 with | i :: _=>(i:Int) | []=>-1)=findC c x lo hi:=by
  have at_iff:∀ i,StrLaws.At (strV x) (strV [c]) hi i ↔ (i < hi∧x[i]?=some c):=by
    intro i
    have:=StrLaws.subAt_one (strV x) c i
    rw [strV_list] at this
    unfold StrLaws.At
    have l1:(strV [c]).length=1:=rfl
    have l2:(⟨#[c]⟩:Str).length=1:=rfl
    rw [l1]
    rw [l2] at this
    constructor
    · rintro ⟨h1,h2⟩
      exact ⟨by omega,this.mp ⟨by rw [strV_len]; omega,h2⟩⟩
    · rintro ⟨h1,h2⟩
      exact ⟨by omega,(this.mpr h2).2⟩
  have get:∀ j,((x.take hi).drop lo)[j]?=some c ↔ (lo+j < hi∧x[lo+j]?=some c):=by
    intro j
    rw [List.getElem?_drop,List.getElem?_take]
    by_cases h:lo+j < hi
    · simp [h]
    · simp [h]
  rw [StrLaws.occ_eq]
  unfold findC
  rcases StrLaws.occ_first (strV x) (strV [c]) hi 1 (Nat.le_refl 1) (List.range' lo (hi+1 - lo)) lo (fun i hi=>(List.mem_range'_1.mp hi).1) with ⟨e,hn⟩ | ⟨pre,a,post,el,e,ha,hn⟩
  · rw [e]
    rcases idxC_spec c ((x.take hi).drop lo) lo with ⟨_,q⟩ | ⟨j,a,_,_⟩
    · rw [q]
    · have:=(get j).mp a
      exact absurd ((at_iff (lo+j)).mpr this) (hn _ (List.mem_range'_1.mpr ⟨by omega,by omega⟩))
  · have hfst:∃ r,(forIn (List.range' lo (hi+1 - lo)) ((#[]:Array Nat),lo) (StrLaws.occBody (strV x) (strV [c]) hi 1)).run.fst.toList=a :: r:=by
      generalize (forIn (List.range' lo (hi+1 - lo)) ((#[]:Array Nat),lo) (StrLaws.occBody (strV x) (strV [c]) hi 1)).run.fst=arr at e ⊢
      obtain ⟨l⟩:=arr
      cases l with
      | nil=>simp at e
      | cons b r=>simp at e; exact ⟨r,by simp [e]⟩
    obtain ⟨r,hr⟩:=hfst
    rw [hr]
    have ham:a ∈ List.range' lo (hi+1 - lo):=by rw [el]; simp
    have hlo:=(List.mem_range'_1.mp ham).1
    have hac:=(at_iff a).mp ha
    rcases idxC_spec c ((x.take hi).drop lo) lo with ⟨q,_⟩ | ⟨j,ja,jb,q⟩
    · exact absurd ((get (a - lo)).mpr (by rw [show lo+(a - lo)=a by omega]; exact hac)) (q _)
    · rw [q]
      have hj:=(get j).mp ja
      have:a=lo+j:=by
        rcases Nat.lt_trichotomy a (lo+j) with h | h | h
        · exact absurd ((get (a - lo)).mpr (by rw [show lo+(a - lo)=a by omega]; exact hac)) (jb _ (by omega))
        · exact h
        · exfalso
          have hm:lo+j ∈ List.range' lo (hi+1 - lo):=List.mem_range'_1.mpr ⟨by omega,by omega⟩
          rw [el] at hm
          have srt:List.Pairwise (· < ·) (pre++a :: post):=by rw [← el]; exact List.pairwise_lt_range'
          rcases List.mem_append.mp hm with hm | hm
          · exact hn _ hm ((at_iff _).mpr hj)
          · rcases List.mem_cons.mp hm with hm | hm
            · omega
            · have:=(List.pairwise_append.mp srt).2.1
              have:=(List.pairwise_cons.mp this).1 _ hm
              omega
      rw [this]
theorem join_cat:∀ (l:List (List Nat)),Txt.join (strV []) (l.map strV)=strV l.flatten:=by
  intro l
  show Builtin.Str.glued _ _=_
  rw [StrLaws.glued_eq_join]
  induction l with
  | nil=>rfl
  | cons x r ih =>
    cases r with
    | nil=>simp [Str.join]
    | cons y r =>
      show strV x++strV []++Str.join (strV []) ((y :: r).map strV)=_
      rw [ih,strV_app,strV_app]
      simp
section
variable {C:Cx} {A:Around} {fs:List FrD} {W:Wd} {os:List AO} {s:Shared} {d:Nat}
theorem strs_are {vs:List V}:∀ {xs:List Value} {l:List (List Nat)},VRs W vs xs→strsOf vs=some l→StrsAre xs (l.map strV):=by
  induction vs with
  | nil=>intro xs l h e; cases h; cases e; exact .nil
  | cons v vs ih =>
    intro xs l h e
    cases h with
    | cons p ps =>
      cases p with
      | str x t hl =>
        obtain ⟨l',e',rfl⟩:=Option.map_eq_some_iff.mp e
        exact .cons _ _ (ih ps e')
      | _=>exact noSome e
noncomputable def biVal:BI→Value
  | .len=>.builtin "len" | .int=>.type "int" | .str=>.type "str" | .isStr=>.builtin "isinstance"
  | .typ=>.type "type" | .deque=>.type "collections.deque" | .range=>.type "range" | .fromkeys=>.builtin "dict.fromkeys"
noncomputable def biArgs:BI→List Value→List Value
  | .isStr,xs=>xs++[.type "str"]
  | .fromkeys,xs=>.type "dict" :: xs
  | _,xs=>xs
theorem sat_len {v:V} {x:Value} (p:VR W v x) (H:HR C fs W os s.heap):Sat C A (call (.builtin "len") [x]) VR fs W (lenOp os v) s:=by
  cases p with
  | str x t hl=>exact Sat.ofI H fun Z E h=>P.len_str (by rw [strV_len]; have:=lim63 hl; omega) (by rw [strV_len]; exact h _ _)
  | obj i a ea =>
    refine Sat.opt fun vs ev=>?_
    cases H.lst? (.obj i a ea) ev with
    | mk _ _ xs n _ _ g r l =>
      exact Sat.ofI H fun Z E h=>call_len_list (isList_of g) (by rw [List.size_toArray,r.length]; exact lim63 l) (by rw [List.size_toArray,r.length]; exact h _ _)
  | _=>exact Sat.fail
theorem sat_typ {v:V} {x:Value} (p:VR W v x) (H:HR C fs W os s.heap):Sat C A (call (.type "type") [x]) VR fs W (typOp os v) s:=by
  cases p with
  | int i t=>exact Sat.ofV H (.typ 0) fun Z E h=>call_type_of (Tx:="int") (typeIs_int _ _ _) (by decide) (h s.toks)
  | bool b=>exact Sat.ofV H (.typ 1) fun Z E h=>call_type_of (Tx:="bool") rfl (by decide) (h s.toks)
  | str x t hl=>exact Sat.ofV H (.typ 2) fun Z E h=>call_type_of (Tx:="str") (typeIs_str _ _ _) (by decide) (h s.toks)
  | _=>exact Sat.fail
theorem sat_strX {v:V} {x:Value} (p:VR W v x) (H:HR C fs W os s.heap) (hu:A.units+10 < cLine):Sat C A (call (.type "str") [x]) VR fs W (R.opt v.exc? fun x=>.ok (.str x) os) s:=by
  cases p with
  | exc m e t eo to ws n tk h1 h2 h3 h4 h5 h6 h7 h8 =>
    refine Sat.ofV H (.str m tk h8) fun Z E h=>str_got_one (h₀:={}) (L:=s.heap.objs.size) (news:=[(e,eo),(t,to)]) PySem.F.excStr_ValueError ?_ ⟨eo,to,ws,n,.head _,.tail _ (.head _),h3,h4,h5,h6,h7⟩ (by omega) (h s.toks)
    have key:∀ q:Addr × Obj,s.heap.get? q.1=some q.2→s.heap.get? q.1=some q.2∧q.1 ≠ s.heap.objs.size∧({}:Heap).get? q.1=none:=fun q e=>⟨e,Nat.ne_of_lt (Heap.lt_size e),rfl⟩
    intro q hq
    cases hq with
    | head=>exact key _ (H.kept _ h1)
    | tail _ hq=>cases hq with
      | head=>exact key _ (H.kept _ h2)
      | tail _ hq=>cases hq
  | _=>exact Sat.fail
theorem sat_bi1 {b:BI} {v:V} {x:Value} (hb:b ≠ .fromkeys) (p:VR W v x) (H:HR C fs W os s.heap) (hu:A.units+10 < cLine):Sat C A (call (biVal b) (biArgs b [x])) VR fs W (bi1 os b v) s:=by
  cases b with
  | len=>exact sat_len p H
  | int =>
    refine Sat.opt fun i e=>?_
    cases p.int? e with
    | mk t=>exact Sat.ofV H (.int i t) fun Z E h=>call_int_int (h s.toks)
  | str=>exact sat_strX p H hu
  | isStr =>
    refine Sat.opt fun i e=>?_
    cases p.str? e
    exact Sat.ofV H (.bool true) fun Z E h=>IsiPair.str_str (h s.toks)
  | typ=>exact sat_typ p H
  | range =>
    refine Sat.opt fun i e=>?_
    cases p.int? e
    exact Sat.ite fun _=>Sat.madeK H rfl (.rng _ _ _ _ _ (.head _)) fun Q E hQ=>call_range_1 (hQ _)
  | deque=>exact Sat.fail
  | fromkeys=>exact absurd rfl hb
end
end Mine
end
section
open PySem PySem.W PySem.Calls PyProof.Rows PySem.F
set_option tactic.hygienic false
namespace Mine
theorem slot_deque_append:Slot "collections.deque" "append" "collections.deque.append" :=
  .of (owner:="collections.deque") (n:="append") (by rw [typeLookup_type,builtinLookup_eq_fast]; kernel_rfl) (by decide +kernel) (by decide +kernel) (by decide +kernel)
    (by first | exact .inl (by decide +kernel) | exact .inr (by decide +kernel)) (by rw [isSubtype_type]; kernel_rfl)
theorem type_deque_append:typeOf (.builtin "collections.deque.append")=pure (.type "method_descriptor"):=by show builtinType _=_; rw [builtinType_eq_fast]; kernel_rfl
theorem entry_deque_append:entryFor table "collections.deque.append"=some Builtin.«collections.deque.append»:=entryFor_of_tree (by kernel_rfl)
theorem slot_deque_pop:Slot "collections.deque" "pop" "collections.deque.pop" :=
  .of (owner:="collections.deque") (n:="pop") (by rw [typeLookup_type,builtinLookup_eq_fast]; kernel_rfl) (by decide +kernel) (by decide +kernel) (by decide +kernel)
    (by first | exact .inl (by decide +kernel) | exact .inr (by decide +kernel)) (by rw [isSubtype_type]; kernel_rfl)
theorem type_deque_pop:typeOf (.builtin "collections.deque.pop")=pure (.type "method_descriptor"):=by show builtinType _=_; rw [builtinType_eq_fast]; kernel_rfl
theorem entry_deque_pop:entryFor table "collections.deque.pop"=some Builtin.«collections.deque.pop»:=entryFor_of_tree (by kernel_rfl)
theorem slot_deque_len:Slot "collections.deque" "__len__" "collections.deque.__len__" :=
  .of (owner:="collections.deque") (n:="__len__") (by rw [typeLookup_type,builtinLookup_eq_fast]; kernel_rfl) (by decide +kernel) (by decide +kernel) (by decide +kernel)
    (by first | exact .inl (by decide +kernel) | exact .inr (by decide +kernel)) (by rw [isSubtype_type]; kernel_rfl)
theorem entry_deque_len:entryFor table "collections.deque.__len__"=some Builtin.«collections.deque.__len__»:=entryFor_of_tree (by kernel_rfl)
theorem noBool_deque:typeLookup (.type "collections.deque") "__bool__"=pure none:=by rw [typeLookup_type,builtinLookup_eq_fast]; kernel_rfl
theorem args_deque_append (a b:Value):argsOk "collections.deque.append" ⟨[a,b],[]⟩:=by
  unfold argsOk; kernel_rfl
theorem args_deque_pop (a:Value):argsOk "collections.deque.pop" ⟨[a],[]⟩:=by
  unfold argsOk; kernel_rfl
theorem args_deque_len (a:Value):argsOk "collections.deque.__len__" ⟨[a],[]⟩:=by
  unfold argsOk; kernel_rfl
end Mine
end
section
open PySem PySem.W PySem.Calls PyProof.Rows
set_option tactic.hygienic false
namespace Mine
open PySem.Builtin.Str (occurrences)
theorem mro_deque:mroOf (.type "collections.deque")=pure [.type "collections.deque",.type "object"]:=by rw [mroOf_type]; kernel_rfl
theorem lookup_deque_new:typeLookup (.type "collections.deque") "__new__"=pure (some (.builtin "collections.deque.__new__")):=by rw [typeLookup_type,builtinLookup_eq_fast]; kernel_rfl
theorem slot_deque_init:Slot "collections.deque" "__init__" "collections.deque.__init__" :=
  .of (owner:="collections.deque") (n:="__init__") (by rw [typeLookup_type,builtinLookup_eq_fast]; kernel_rfl) (by decide +kernel) (by decide +kernel) (by decide +kernel)
    (by first | exact .inl (by decide +kernel) | exact .inr (by decide +kernel)) (by rw [isSubtype_type]; kernel_rfl)
theorem called_deque:TypeCalled "collections.deque" "collections.deque.__new__" "collections.deque.__init__" :=
  ⟨by decide +kernel,by decide +kernel,⟨_,_,mro_deque⟩,madeBy_type mro_deque lookup_deque_new (by decide +kernel),by decide +kernel,by rw [isSubtype_type]; kernel_rfl,slot_deque_init⟩
theorem typeCall_deque:checkTypeCall "collections.deque" ⟨[],[]⟩=pure ():=by kernel_rfl
theorem newCall_deque:checkBuiltinCall "collections.deque.__new__" ⟨[.type "collections.deque"],[]⟩=pure ():=by kernel_rfl
theorem entry_deque_new:entryFor table "collections.deque.__new__"=some Builtin.«collections.deque.__new__»:=entryFor_of_tree (by kernel_rfl)
theorem entry_deque_init:entryFor table "collections.deque.__init__"=some Builtin.«collections.deque.__init__»:=entryFor_of_tree (by kernel_rfl)
theorem plain_deque_new:plainId "collections.deque.__new__"=true:=by decide +kernel
theorem args_deque_init (a:Value):argsOk "collections.deque.__init__" ⟨[a],[]⟩:=by unfold argsOk; kernel_rfl
theorem mro_dict:mroOf (.type "dict")=pure [.type "dict",.type "object"]:=by rw [mroOf_type]; kernel_rfl
theorem lookup_dict_new:typeLookup (.type "dict") "__new__"=pure (some (.builtin "dict.__new__")):=by rw [typeLookup_type,builtinLookup_eq_fast]; kernel_rfl
theorem called_dict:TypeCalled "dict" "dict.__new__" "dict.__init__" :=
  ⟨by decide +kernel,by decide +kernel,⟨_,_,mro_dict⟩,madeBy_type mro_dict lookup_dict_new (by decide +kernel),by decide +kernel,by rw [isSubtype_type]; kernel_rfl,PySem.F.slot_dict_init⟩
theorem typeCall_dict:checkTypeCall "dict" ⟨[],[]⟩=pure ():=by kernel_rfl
theorem newCall_dict:checkBuiltinCall "dict.__new__" ⟨[.type "dict"],[]⟩=pure ():=by kernel_rfl
theorem entry_dict_new:entryFor table "dict.__new__"=some Builtin.«dict.__new__»:=entryFor_of_tree (by kernel_rfl)
theorem plain_dict_new:plainId "dict.__new__"=true:=by decide +kernel
theorem sub_dict_self:isSubtype (.type "dict") (.type "dict")=pure true:=by rw [isSubtype_type]; kernel_rfl
section
variable {prog:Program} {w:World} {A:Around} {E:Value→Shared→Prop} {s:Shared}
theorem code_deque_new {Q₁:Value→Shared→Prop} (h:Q₁ (.ref s.heap.objs.size) { s with heap:=s.heap.push (dqOf [] 0) }) :
    codeAny (model prog w) A (.call (.builtin "collections.deque.__new__") ⟨[.type "collections.deque"],[]⟩) (wants Q₁ E) s:=by
  refine codeAny_of_tree ?_
  show wpAny _ A.in1 (do checkBuiltinCall "collections.deque.__new__" ⟨[.type "collections.deque"],[]⟩; again (.builtin "collections.deque.__new__" ⟨[.type "collections.deque"],[]⟩)) _ _ s
  refine wpAny_bind (wpAny_of_eq newCall_deque (wpAny_pure ⟨plainId_quiet plain_deque_new _,codeAny_builtin entry_deque_new ?_⟩))
  rw [Around.under_plainId plain_deque_new _]
  have h1:Builtin.Deque.newArgs Builtin.Deque.ty ⟨[.type "collections.deque"],[]⟩=pure (.type "collections.deque",[]):=by kernel_rfl
  have h2:Builtin.Deque.new (.type "collections.deque") #[] none=newObj (.type "collections.deque") (.fields (#[.none,rawInt 0]++#[])) none:=by kernel_rfl
  unfold Builtin.«collections.deque.__new__»
  rw [h1]
  refine wpAny_bind (wpAny_pure ?_)
  dsimp only
  rw [h2]
  exact wpAny_bind (wpAny_newObj_type (wpAny_pure h))
theorem code_dict_new {Q₁:Value→Shared→Prop} (h:Q₁ (.ref s.heap.objs.size) { s with heap:=s.heap.push { cls:=.type "dict",data:=.dict #[] } }) :
    codeAny (model prog w) A (.call (.builtin "dict.__new__") ⟨[.type "dict"],[]⟩) (wants Q₁ E) s:=by
  refine codeAny_of_tree ?_
  show wpAny _ A.in1 (do checkBuiltinCall "dict.__new__" ⟨[.type "dict"],[]⟩; again (.builtin "dict.__new__" ⟨[.type "dict"],[]⟩)) _ _ s
  refine wpAny_bind (wpAny_of_eq newCall_dict (wpAny_pure ⟨plainId_quiet plain_dict_new _,codeAny_builtin entry_dict_new ?_⟩))
  rw [Around.under_plainId plain_dict_new _]
  unfold Builtin.«dict.__new__»
  have hsub:=sub_dict_self
  have hm:=mro_dict
  obtain ⟨hp,g,d,tk,os⟩:=s
  dsimp only
  wp_walk
  exact h
theorem call_deque {Q:Value→Shared→Prop} (h:∀ h',(∀ b o,s.heap.get? b=some o→h'.get? b=some o)→h'.objs.size=s.heap.objs.size+1→h'.get? s.heap.objs.size=some (dqOf [] 0)→Q (.ref s.heap.objs.size) { s with heap:=h' }) :
    wpAny (model prog w) A (call (.type "collections.deque") []) Q E s:=by
  refine callType_codes (Q₁:=fun v s₁=>v=.ref s.heap.objs.size∧s₁={ s with heap:=s.heap.push (dqOf [] 0) }) called_deque typeCall_deque entry_deque_init (code_deque_new ⟨rfl,rfl⟩) ?_
  rintro obj s₁ ⟨rfl,rfl⟩
  have g:(s.heap.push (dqOf [] 0)).get? s.heap.objs.size=some (dqOf [] 0):=Heap.get?_push_size _ rfl
  refine ⟨⟨_,g,rfl⟩,args_deque_init _,?_⟩
  have key:wpAny (model prog w) A.in1.in1 (setField (.ref s.heap.objs.size) 0 .none >>= fun _=>Builtin.Deque.clear (.ref s.heap.objs.size) >>= fun _=>ret .none)
      (fun fin s'=>match fin with | .done f=>wants (fun r s₂=>r=.none∧Q (.ref s.heap.objs.size) s₂) E (.ok f) s' | .again c'=>c'.quiet=true∧codeAny (model prog w) A.in1 c' (wants (fun r s₂=>r=.none∧Q (.ref s.heap.objs.size) s₂) E) s')
        (fun e s'=>wants (fun r s₂=>r=.none∧Q (.ref s.heap.objs.size) s₂) E (.error e) s') { s with heap:=s.heap.push (dqOf [] 0) }:=by
    refine wpAny_bind (wpAny_setField g rfl (by decide) ?_)
    have g2:=Heap.get?_update_self (Obj.mapFields (·.setIfInBounds 0 .none)) g rfl
    have sb:=Heap.SameBut.update (h:=s.heap.push (dqOf [] 0)) (a:=s.heap.objs.size) (f:=Obj.mapFields (·.setIfInBounds 0 Value.none))
    unfold Builtin.Deque.clear Builtin.Deque.items
    refine wpAny_bind (wpAny_bind (wpAny_bind (wpAny_fieldsOf g2 rfl (wpAny_pure ?_))))
    refine wpAny_pure (wpAny_pure ⟨rfl,h _ ?_ ?_ g2⟩)
    · intro b o e
      have:=Heap.get?_push_of_some (dqOf [] 0) e
      rw [sb.2 b (Nat.ne_of_lt (Heap.lt_size e))]
      exact this
    · rw [sb.1]; simp [Heap.push]
  exact key
theorem deque_append {a:Addr} {xs:List Value} {st:Int} {x:Value} {Q:Value→Shared→Prop} (g:s.heap.get? a=some (dqOf xs st)) (hsz:xs.length ≤ lim)
    (h:∀ h',Heap.SameBut a s.heap h'→h'.get? a=some (dqOf (xs++[x]) (st+1))→Q .none { s with heap:=h' }) :
    wpAny (model prog w) A (call (.builtin "collections.deque.append") [.ref a,x]) Q E s:=by
  refine wpAny_call_entry slot_deque_append ⟨_,g,rfl⟩ entry_deque_append ?_ (args_deque_append _ _)
  show wpAny _ _ (Builtin.Deque.pushRight (.ref a) x >>= fun _=>ret .none) _ _ s
  unfold Builtin.Deque.pushRight Builtin.Deque.change Builtin.Deque.state Builtin.Deque.maxlen
  refine wpAny_bind (wpAny_bind (wpAny_bind (wpAny_bind (wpAny_field g rfl (x:=rawInt st) (by simp) (wpAny_pure ?_)))))
  refine wpAny_updateFields g rfl ?_ (by simp; unfold lim at hsz; simp [sizeLine]; omega)
  have g2:=Heap.get?_update_self (Obj.mapFields fun vs=>#[vs.getD 0 .none,rawInt (if true=true then st+1 else st)]++(vs.extract 2 vs.size).push x) g rfl
  have e:Obj.mapFields (fun vs=>#[vs.getD 0 .none,rawInt (if true=true then st+1 else st)]++(vs.extract 2 vs.size).push x) (dqOf xs st)=dqOf (xs++[x]) (st+1):=by
    simp [Obj.mapFields,dqOf]
  rw [e] at g2
  refine wpAny_bind (wpAny_bind (wpAny_field g2 rfl (x:=.none) (by simp) (wpAny_pure ?_)))
  exact wpAny_pure (wpAny_pure ⟨_,rfl,h _ (Heap.SameBut.update ..) g2⟩)
theorem deque_pop {a:Addr} {xs:List Value} {st:Int} {x:Value} {Q:Value→Shared→Prop} (g:s.heap.get? a=some (dqOf xs st)) (hx:xs.getLast?=some x) (hsz:xs.length ≤ lim)
    (h:∀ h',Heap.SameBut a s.heap h'→h'.get? a=some (dqOf xs.dropLast (st+1))→Q x { s with heap:=h' }) :
    wpAny (model prog w) A (call (.builtin "collections.deque.pop") [.ref a]) Q E s:=by
  refine wpAny_call_entry slot_deque_pop ⟨_,g,rfl⟩ entry_deque_pop ?_ (args_deque_pop _)
  unfold Builtin.«collections.deque.pop»
  refine wpAny_bind (m:=selfOnly "deque.pop" _) (wpAny_pure ?_)
  unfold Builtin.Deque.items
  refine wpAny_bind (wpAny_bind (wpAny_fieldsOf g rfl (wpAny_pure ?_)))
  have hb:((#[Value.none,rawInt st]++xs.toArray).extract 2 (#[Value.none,rawInt st]++xs.toArray).size).back?=some x:=by
    simpa using hx
  simp only [hb]
  unfold Builtin.Deque.change Builtin.Deque.state
  refine wpAny_bind (wpAny_bind (wpAny_bind (wpAny_field g rfl (x:=rawInt st) (by simp) (wpAny_pure ?_))))
  refine wpAny_updateFields g rfl ?_ (by simp; unfold lim at hsz; simp [sizeLine]; omega)
  have g2:=Heap.get?_update_self (Obj.mapFields fun vs=>#[vs.getD 0 .none,rawInt (if true=true then st+1 else st)]++(vs.extract 2 vs.size).pop) g rfl
  have e:Obj.mapFields (fun vs=>#[vs.getD 0 .none,rawInt (if true=true then st+1 else st)]++(vs.extract 2 vs.size).pop) (dqOf xs st)=dqOf xs.dropLast (st+1):=by
    simp [Obj.mapFields,dqOf]
  rw [e] at g2
  exact wpAny_pure ⟨_,rfl,h _ (Heap.SameBut.update ..) g2⟩
theorem deque_len_body {a:Addr} {xs:List Value} {st:Int} {Q:Value→Shared→Prop} (g:s.heap.get? a=some (dqOf xs st)) (hsz:xs.length ≤ lim)
    (h:Q (.int xs.length (s.toks+1)) { s with toks:=s.toks+1+1 }):wpAny (model prog w) A (Builtin.«len» ⟨[.ref a],[]⟩) (fun fin s'=>∃ r,fin=.done (.ret r)∧Q r s') E s:=by
  have hT:s.TypeIs (.ref a) "collections.deque":=⟨_,g,rfl⟩
  unfold Builtin.«len»
  refine wpAny_bind (m:=oneArg "len" _) (wpAny_pure ?_)
  refine wpAny_bind (m:=callSpecial? (.ref a) (Str.ofString "__len__")) (wpAny_callSpecial?_slot (name:=Str.ofString "__len__") hT slot_deque_len
    (wpAny_call_entry slot_deque_len hT entry_deque_len ?_ (args_deque_len _)))
  show wpAny _ _ (Builtin.Deque.size (.ref a) >>= fun n=>retInt n) _ _ s
  unfold Builtin.Deque.size
  refine wpAny_bind (wpAny_bind (wpAny_fieldsOf g rfl (wpAny_pure ?_)))
  have e:(#[Value.none,rawInt st]++xs.toArray).size - 2=xs.length:=by simp
  rw [e]
  refine wpAny_bind (wpAny_mkInt (wpAny_pure ⟨_,rfl,?_⟩))
  refine wpAny_bind (wpAny_holding (wpAny_pure ?_))
  refine wpAny_bind (wpAny_letGo ?_)
  show wpAny _ _ (if ((xs.length:Nat):Int) < 0 then _ else _) _ _ _
  rw [if_neg (by omega)]
  show wpAny _ _ (if ((xs.length:Nat):Int) ≥ 2 ^ 63 then _ else _) _ _ _
  have:=lim63 hsz
  rw [if_neg (by omega)]
  exact wpAny_bind (wpAny_mkInt (wpAny_pure ⟨_,rfl,h⟩))
theorem deque_truthy {a:Addr} {xs:List Value} {st:Int} {Q:Bool→Shared→Prop} (g:s.heap.get? a=some (dqOf xs st)) (hsz:xs.length ≤ lim)
    (h:Q (!xs.isEmpty) { s with toks:=s.toks+1+1 }):wpAny (model prog w) A (truthy (.ref a)) Q E s:=by
  have hT:s.TypeIs (.ref a) "collections.deque":=⟨_,g,rfl⟩
  have hne:(((xs.length:Nat):Int) != 0)=!xs.isEmpty:=by
    cases xs with
    | nil=>rfl
    | cons x r=>rw [bne_iff_ne.mpr]; rfl; simp; omega
  have key:wpAny (model prog w) A (runValue (.builtin "len" ⟨[.ref a],[]⟩)) (fun r s'=>r=.int xs.length (s.toks+1)∧Q (!xs.isEmpty) s') E s:=by
    refine wpAny_runValue (codeAny_builtin entry_len ?_)
    rw [Around.under_plainId plain_len _]
    exact wpAny_mono (deque_len_body (Q:=fun r s'=>r=.int xs.length (s.toks+1)∧Q (!xs.isEmpty) s') g hsz ⟨rfl,h⟩)
      (fun fin s' h'=>by obtain ⟨r,rfl,hq⟩:=h'; exact hq) fun _ _ e=>e
  unfold truthy
  refine wpAny_bind (wpAny_callSpecial?_none (name:=Str.ofString "__bool__") hT noBool_deque ?_)
  refine wpAny_bind (wpAny_specialOf (name:=Str.ofString "__len__") hT slot_deque_len.lookup ?_)
  exact wpAny_bind (wpAny_mono key (fun r s' h'=>by obtain ⟨rfl,hq⟩:=h'; rw [← hne] at hq; exact wpAny_pure hq) fun _ _ e=>e)
end
section
variable {C:Cx} {A:Around} {fs:List FrD} {W:Wd} {os:List AO} {s:Shared} {d:Nat}
theorem emptyOf {α β:Type} {xs:List α} {vs:List β} (h:xs.length=vs.length):xs.isEmpty=vs.isEmpty:=by
  cases xs<;>cases vs<;>first | rfl | cases h
theorem sat_truthy {v:V} {x:Value} {b:Bool} {P:Bool→Shared→Prop} {E:Value→Shared→Prop} (hv:VR W v x) (H:HR C fs W os s.heap) (e:truth os v=some b)
    (h:∀ tk,P b { s with toks:=tk }):wpAny (model C.prog C.w) A (truthy x) P E s:=by
  cases hv with
  | none=>cases e; exact truthy_none (h s.toks)
  | bool b=>cases e; exact wpAny_truthy_bool (h s.toks)
  | int i t=>cases e; exact PySem.P.truthy_int (h s.toks)
  | str l t hl =>
    cases e
    refine PySem.P.truthy_str (by rw [strV_len]; have:=lim63 hl; omega) ?_
    have e:(((strV l).length:Int) != 0)=!l.isEmpty:=by
      rw [strV_len]
      cases l<;>rfl
    rw [e]
    exact h _
  | obj i a ea =>
    obtain ⟨o,eo,e⟩:=bindSome e
    obtain ⟨ob,g,r⟩:=H.objs i o a eo ea
    cases r with
    | list vs xs n r l =>
      cases e
      exact wpAny_truthy_list (isList_of g) (by rw [List.size_toArray,r.length]; exact lim63 l) (by rw [List.isEmpty_toArray,emptyOf r.length]; exact h _)
    | deque vs xs st r l =>
      cases e
      exact deque_truthy g (by rw [r.length]; exact l) (by rw [emptyOf r.length]; exact h _)
    | _=>exact noSome e
  | _=>exact noSome e
theorem find4 {x y:Str} {i j:Int} {t u v v':Tok} {prog:Program} {w:World} {E:Value→Shared→Prop} {Q:Value→Shared→Prop}
    (hq:Q (.int (match occurrences x y (fromIndex x.length i) (min (fromIndex x.length j) x.length) 1 with | k :: _=>(k:Int) | []=>-1) s.toks) { s with toks:=s.toks+1 }) :
    wpAny (model prog w) A (call (.builtin "str.find") [.str x t,.str y u,.int i v,.int j v']) Q E s:=by
  refine call_gives F.slot_str_find (typeIs_str _ _ _) F.entry_str_find (F.args_str_find_4 _ _ _ _) (m:=.int _) ?_ hq
  show Gives (match occurrences x y (fromIndex x.length i) (min (fromIndex x.length j) x.length) 1 with | k :: _=>retInt k | []=>(do rule "str.find.not-found"; retInt (-1))) _
  cases occurrences x y (fromIndex x.length i) (min (fromIndex x.length j) x.length) 1 with
  | nil=>exact .rule (.of_eq rfl)
  | cons k _=>exact .of_eq rfl
end
end Mine
end
section
open PySem PySem.W PySem.Calls PyProof.Rows PySem.F
set_option tactic.hygienic false
namespace Mine
theorem check_fromkeys (x:Str) (t:Tok):checkBuiltinCall "dict.fromkeys" ⟨[.type "dict",.str x t],[]⟩=pure ():=by kernel_rfl
theorem entry_fromkeys:entryFor table "dict.fromkeys"=some Builtin.«dict.fromkeys»:=entryFor_of_tree (by kernel_rfl)
theorem entry_fromkeys_loop:entryFor table "dict.fromkeys.loop"=some Builtin.«dict.fromkeys.loop»:=entryFor_of_tree (by kernel_rfl)
theorem plain_fromkeys:plainId "dict.fromkeys"=true:=by decide +kernel
theorem plain_fromkeys_loop:plainId "dict.fromkeys.loop"=true:=by decide +kernel
theorem check_maketrans (a:Addr):checkBuiltinCall "str.maketrans" ⟨[.ref a],[]⟩=pure ():=by kernel_rfl
section
variable {prog:Program} {w:World} {A:Around} {E:Value→Shared→Prop} {s:Shared} {R:Result→Shared→Prop}
theorem call_dict0 {Q:Value→Shared→Prop} (h:Q (.ref s.heap.objs.size) { s with heap:=s.heap.push { cls:=.type "dict",data:=.dict #[] } }) :
    wpAny (model prog w) A (call (.type "dict") []) Q E s:=by
  refine callType_codes (Q₁:=fun v s₁=>v=.ref s.heap.objs.size∧s₁={ s with heap:=s.heap.push { cls:=.type "dict",data:=.dict #[] } }) called_dict typeCall_dict F.entry_dict_init (code_dict_new ⟨rfl,rfl⟩) ?_
  rintro obj s₁ ⟨rfl,rfl⟩
  have g:(s.heap.push { cls:=.type "dict",data:=.dict #[] }).get? s.heap.objs.size=some { cls:=.type "dict",data:=.dict #[] }:=Heap.get?_push_size _ rfl
  have hT:Shared.TypeIs { s with heap:=s.heap.push { cls:=.type "dict",data:=.dict #[] } } (.ref s.heap.objs.size) "dict":=⟨_,g,rfl⟩
  refine ⟨hT,F.args_dict_init_1 _,?_⟩
  unfold Builtin.«dict.__init__» Builtin.Dict.selfAndRest Builtin.Dict.updateCommon Builtin.Dict.addKeywords Builtin.Dict.notOrdered
  wp_walk
  exact ⟨rfl,h⟩
theorem stored_key (l:List (List Nat)) (c:Nat):stored (keysOf l) (strV [c]) .none=keysOf (addKey l c):=by
  unfold stored addKey
  have h:((keysOf l).any fun kv=>decide (kv.1=strV [c]))=l.contains [c]:=by
    rw [Bool.eq_iff_iff,List.any_eq_true,List.contains_iff_mem]
    constructor
    · rintro ⟨kv,hm,e⟩
      obtain ⟨a,ha,rfl⟩:=List.mem_map.mp hm
      have e:=of_decide_eq_true e
      have:a=[c]:=by have:=congrArg (·.cps.toList) e; simpa [strV] using this
      subst this; exact ha
    · intro hm
      exact ⟨(strV [c],.none),List.mem_map.mpr ⟨[c],hm,rfl⟩,by simp⟩
  rw [h]
  split
  · unfold keysOf
    rw [List.map_map]
    refine List.map_congr_left fun a _=>?_
    simp only [Function.comp]
    split<;>rfl
  · simp [keysOf]
theorem stored_ord (l:List Nat) (c:Nat):stored (ordsOf l) (c:Int) .none=ordsOf (addOrd l c):=by
  unfold stored addOrd
  have h:((ordsOf l).any fun kv=>decide (kv.1=(c:Int)))=l.contains c:=by
    rw [Bool.eq_iff_iff,List.any_eq_true,List.contains_iff_mem]
    constructor
    · rintro ⟨kv,hm,e⟩
      obtain ⟨a,ha,rfl⟩:=List.mem_map.mp hm
      have e:=of_decide_eq_true e
      have:a=c:=Int.ofNat.inj e
      subst this; exact ha
    · intro hm
      exact ⟨((c:Int),.none),List.mem_map.mpr ⟨c,hm,rfl⟩,by simp⟩
  rw [h]
  split
  · unfold ordsOf
    rw [List.map_map]
    refine List.map_congr_left fun a _=>?_
    simp only [Function.comp]
    split<;>rfl
  · simp [ordsOf]
theorem addKey_len (l:List (List Nat)) (c:Nat):(addKey l c).length ≤ l.length+1:=by unfold addKey; split<;>simp
theorem addOrd_len (l:List Nat) (c:Nat):(addOrd l c).length ≤ l.length+1:=by unfold addOrd; split<;>simp
theorem fromkeys_loop {d it:Addr} (hne:d ≠ it) {x:Str} {St:Nat→Heap→Prop} (hh:A.handled=none) (Wk:∀ A':Around,A'.handled=none→Walks prog w A' it [it] [it] x.cps.size (SignAt x) St) :
    ∀ (n i:Nat) (l:List (List Nat)) (s:Shared),i+n=x.cps.size→l.length ≤ i→x.cps.size ≤ lim→St i s.heap→s.heap.DictOf (strKind prog w) d (keysOf l) →
    (∀ h' tk,(∀ b o,b ≠ d→b ≠ it→s.heap.get? b=some o→h'.get? b=some o)→h'.DictOf (strKind prog w) d (keysOf ((x.cps.toList.drop i).foldl addKey l))→R (.ok (.ret (.ref d))) { s with heap:=h',toks:=tk }) →
    codeAny (model prog w) A (.builtin "dict.fromkeys.loop" ⟨[.ref d,.ref it,.none],[]⟩) R s
  | 0,i,l,s,hi,hl,hz,st,hd,hR=>by
    refine codeAny_builtin entry_fromkeys_loop ?_
    rw [Around.under_plainId plain_fromkeys_loop _]
    unfold Builtin.«dict.fromkeys.loop»
    have hi:i=x.cps.size:=by omega
    subst hi
    refine wpAny_bind ((Wk A.in1 hh).done _ _ _ st fun h' tk hk=>?_)
    refine wpAny_pure (hR h' tk (fun b o _ hb=>hk b o (by simpa using hb)) ?_)
    rw [List.drop_of_length_le (by simp)]
    obtain ⟨o,es,ep,g,r⟩:=hd
    exact ⟨o,es,ep,hk _ _ (by simpa using hne) g,r⟩
  | n+1,i,l,s,hi,hl,hz,st,hd,hR=>by
    refine codeAny_builtin entry_fromkeys_loop ?_
    rw [Around.under_plainId plain_fromkeys_loop _]
    unfold Builtin.«dict.fromkeys.loop»
    refine wpAny_bind ((Wk A.in1 hh).item i _ _ _ (by omega) st fun v h' tk hv st' hk=>?_)
    obtain ⟨c,u,hc,rfl⟩:=hv
    have hd':h'.DictOf (strKind prog w) d (keysOf l):=by
      obtain ⟨o,es,ep,g,r⟩:=hd
      exact ⟨o,es,ep,hk _ _ (by simpa using hne) g,r⟩
    have hT:Shared.TypeIs { s with heap:=h',toks:=tk } (.ref d) "dict":=hd'.typeIs
    refine wpAny_bind (wpAny_typeOf hT ?_)
    have h1:(Value.type "dict" == Value.type "dict")=true:=by decide
    rw [h1]
    refine wpAny_bind (m:=Builtin.Dict.addrOf _) (wpAny_pure ?_)
    refine wpAny_bind (wpAny_holding ?_)
    refine wpAny_dictSet_pairs (k:=strV [c]) (strKind_is prog w _ _) hd' (fun h2 hd2 sb=>?_) (by simp [keysOf,sizeLine]; unfold lim at hz; omega)
    refine wpAny_pure ⟨plainId_quiet plain_fromkeys_loop _,?_⟩
    rw [stored_key] at hd2
    refine fromkeys_loop hne hh Wk n (i+1) _ _ (by omega) (Nat.le_trans (addKey_len _ _) (by omega)) hz ((Wk A hh).frame _ _ _ st' fun b hb o e=>?_) hd2 fun h3 tk3 hk3 hd3=>?_
    · have:b=it:=by simpa using hb
      subst this
      exact (sb.2 b (Ne.symm hne)).trans e
    · refine hR h3 tk3 (fun b o b1 b2 e=>hk3 b o b1 b2 ((sb.2 b b1).trans (hk b o (by simpa using b2) e))) ?_
      have:x.cps.toList.drop i=c :: x.cps.toList.drop (i+1):=by
        obtain ⟨h4,h5⟩:=Array.getElem?_eq_some_iff.mp hc
        rw [List.drop_eq_getElem_cons (by simpa using h4)]
        simp [h5]
      rw [this]
      exact hd3
theorem fromkeys_body {x:Str} {t:Tok} (hh:A.handled=none) (hz:x.cps.size ≤ lim)
    (h:∀ h' tk,(∀ b o,s.heap.get? b=some o→h'.get? b=some o)→h'.DictOf (strKind prog w) s.heap.objs.size (keysOf (x.cps.toList.foldl addKey []))→R (.ok (.ret (.ref s.heap.objs.size))) { s with heap:=h',toks:=tk }) :
    wpAny (model prog w) A.in1 (Builtin.«dict.fromkeys» ⟨[.type "dict",.str x t],[]⟩)
      (fun fin s'=>match fin with | .done f=>R (.ok f) s' | .again c'=>c'.quiet=true∧codeAny (model prog w) A c' R s') (fun e s'=>R (.error e) s') s:=by
  have hsub:=sub_dict_self
  unfold Builtin.«dict.fromkeys»
  refine wpAny_bind (m:=isType _) (wpAny_pure ?_)
  refine wpAny_bind (m:=isSubtype _ _) (wpAny_of_eq hsub ?_)
  refine wpAny_bind (wpAny_rule (wpAny_bind (wpAny_pure ?_)))
  dsimp only
  refine wpAny_bind (call_dict0 ?_)
  refine wpAny_holding ?_
  have g:(s.heap.push { cls:=.type "dict",data:=.dict #[] }).get? s.heap.objs.size=some { cls:=.type "dict",data:=.dict #[] }:=Heap.get?_push_size _ rfl
  have hT:Shared.TypeIs { s with heap:=s.heap.push { cls:=.type "dict",data:=.dict #[] } } (.ref s.heap.objs.size) "dict":=⟨_,g,rfl⟩
  refine wpAny_bind (wpAny_typeOf (typeIs_str _ _ _) ?_)
  refine wpAny_bind (wpAny_typeOf hT ?_)
  have h1:((Value.type "dict" == Value.type "dict")&&(Value.type "str" == Value.type "dict"))=false:=by decide
  have h2:((Value.type "dict" == Value.type "dict")&&((Value.type "str" == Value.type "set") || (Value.type "str" == Value.type "frozenset")))=false:=by decide
  rw [h1]
  refine wpAny_bind (wpAny_typeOf hT ?_)
  rw [h2]
  refine wpAny_bind (wpAny_pyIter_str fun o St Wk st=>?_)
  refine wpAny_pure ⟨plainId_quiet plain_fromkeys_loop _,?_⟩
  have hs:(s.heap.push { cls:=.type "dict",data:=.dict #[] }).objs.size=s.heap.objs.size+1:=by simp [Heap.push]
  have hd0:(s.heap.push { cls:=.type "dict",data:=.dict #[] }).DictOf (strKind prog w) s.heap.objs.size []:=Heap.DictOf.new s.heap
  have hne:s.heap.objs.size ≠ (s.heap.push { cls:=.type "dict",data:=.dict #[] }).objs.size:=by rw [hs]; exact Nat.ne_of_lt (Nat.lt_succ_self _)
  refine fromkeys_loop (d:=s.heap.objs.size) hne hh Wk x.cps.size 0 [] _ (by omega) (Nat.le_refl _) hz st (hd0.push o) fun h' tk hk hd=>h h' tk (fun b o' e=>?_) hd
  have hb:=Heap.lt_size e
  exact hk b o' (Nat.ne_of_lt hb) (Nat.ne_of_lt (Nat.lt_of_lt_of_eq (Nat.lt_succ_of_lt hb) hs.symm)) (Heap.get?_push_of_some _ (Heap.get?_push_of_some _ e))
theorem call_fromkeys {x:Str} {t:Tok} {Q:Value→Shared→Prop} (hh:A.handled=none) (hz:x.cps.size ≤ lim)
    (h:∀ h' tk,(∀ b o,s.heap.get? b=some o→h'.get? b=some o)→h'.DictOf (strKind prog w) s.heap.objs.size (keysOf (x.cps.toList.foldl addKey []))→Q (.ref s.heap.objs.size) { s with heap:=h',toks:=tk }) :
    wpAny (model prog w) A (call (.builtin "dict.fromkeys") [.type "dict",.str x t]) Q E s :=
  wpAny_call (codeAny_call_builtin plain_fromkeys entry_fromkeys (wpAny_of_eq (check_fromkeys x t) (fromkeys_body (R:=fun r s'=>match r with | .ok (.ret v)=>Q v s' | .ok _=>False | .error e=>E e s') hh hz h)))
end
theorem slot_maketrans_entry:entryFor table "str.maketrans"=some Builtin.«str.maketrans»:=entryFor_of_tree (by kernel_rfl)
theorem plain_maketrans:plainId "str.maketrans"=true:=by decide +kernel
section
variable {prog:Program} {w:World} {A:Around} {E:Value→Shared→Prop} {s:Shared} {R:Result→Shared→Prop}
inductive KE:List DictEntry→List (List Nat)→Prop
  | nil:KE [] []
  | cons {h:Int} {a:List Nat} {t:Tok} {es:List DictEntry} {l:List (List Nat)}:KE es l→KE (⟨h,.str (strV a) t,.none⟩ :: es) (a :: l)
theorem KE.of {l:List (List Nat)}:∀ {es:List DictEntry},Pairs (strKind prog w) es (keysOf l)→KE es l:=by
  induction l with
  | nil=>intro es h; cases h; exact .nil
  | cons a l ih =>
    intro es h
    cases h with
    | @cons e _ _ _ h1 h2 h3 =>
      obtain ⟨h,k,v⟩:=e
      obtain ⟨t,rfl⟩:=Value.isStrOf_shape h1
      cases h2
      exact .cons (ih h3)
theorem ords_len {acc:List Nat} {c:Nat} {m:List (List Nat)} (h:acc.length+([c] :: m).length ≤ lim):(addOrd acc c).length+m.length ≤ lim:=by
  rw [List.length_cons] at h
  exact Nat.le_trans (Nat.add_le_add_right (addOrd_len acc c) _) (by omega)
theorem ords_small {acc:List Nat} {k:List Nat} {m:List (List Nat)} (h:acc.length+(k :: m).length ≤ lim):(ordsOf acc).length ≤ sizeLine:=by
  rw [List.length_cons] at h
  simp only [ordsOf,List.length_map]
  unfold sizeLine
  unfold lim at h
  omega
inductive MtI (prog:Program) (w:World) (s:Shared) (l:List (List Nat)) (rest:List DictEntry) (s':Shared):Prop
  | mk (m:List (List Nat)) (acc:List Nat) (h':Heap) (tk:Nat) (hk:KE rest m) (hm:m.all (fun k=>k.length == 1)=true) (hl:acc.length+m.length ≤ lim) (hf:m.flatten.foldl addOrd acc=l.flatten.foldl addOrd []) (e:s'={ s with heap:=h',toks:=tk })
    (kp:∀ b o,s.heap.get? b=some o→h'.get? b=some o) (hd:h'.DictOf (intKind prog w) s.heap.objs.size (ordsOf acc)):MtI prog w s l rest s'
inductive KC (e:DictEntry) (rest:List DictEntry) (m:List (List Nat)):Prop
  | mk (c:Nat) (t:Tok) (m':List (List Nat)) (ek:e.key=.str (strV [c]) t) (ev:e.val=.none) (em:m=[c] :: m') (hk:KE rest m') (hm:m'.all (fun k=>k.length == 1)=true):KC e rest m
theorem KE.step {e:DictEntry} {rest:List DictEntry} {m:List (List Nat)} (h:KE (e :: rest) m) (hm:m.all (fun k=>k.length == 1)=true):KC e rest m:=by
  cases h with
  | cons hk =>
    obtain ⟨h1,h2⟩:=and_of hm
    obtain ⟨c,rfl⟩:=List.length_eq_one_iff.mp (eq_of_beq h1)
    exact ⟨c,_,_,rfl,rfl,rfl,hk,h2⟩
theorem notModules {a:Addr} {f:String} (ha:(a == sysModules)=false):notTheModulesDict f a=pure ():=by
  unfold notTheModulesDict; rw [ha]; rfl
theorem call_maketrans {a:Addr} {l:List (List Nat)} {Q:Value→Shared→Prop} (ha:(a == sysModules)=false) (hd:s.heap.DictOf (strKind prog w) a (keysOf l)) (h1:l.all (fun k=>k.length == 1)=true) (hz:l.length ≤ lim)
    (h:∀ h' tk,(∀ b o,s.heap.get? b=some o→h'.get? b=some o)→h'.DictOf (intKind prog w) s.heap.objs.size (ordsOf (l.flatten.foldl addOrd []))→Q (.ref s.heap.objs.size) { s with heap:=h',toks:=tk }) :
    wpAny (model prog w) A (call (.builtin "str.maketrans") [.ref a]) Q E s:=by
  refine wpAny_call (codeAny_call_builtin plain_maketrans slot_maketrans_entry (wpAny_of_eq (check_maketrans a) ?_))
  unfold Builtin.«str.maketrans»
  refine wpAny_bind (m:=noKeywords _ _) (wpAny_pure ?_)
  refine wpAny_bind (m:=checkCount _ _ _ _) (wpAny_of_eq (a:=()) (by kernel_rfl) ?_)
  refine wpAny_bind (wpAny_pure ?_)
  refine wpAny_bind (wpAny_pure ?_)
  refine wpAny_bind (wpAny_newObj_type ?_)
  dsimp only
  refine wpAny_bind (wpAny_holding ?_)
  have hT':Shared.TypeIs { s with heap:=s.heap.push { cls:=.type "dict",data:=.dict #[] } } (.ref a) "dict":=(hd.push _).typeIs
  refine wpAny_bind (wpAny_typeOf hT' ?_)
  refine wpAny_bind (m:=notAStandIn _) (wpAny_pure ?_)
  refine wpAny_bind (wpAny_typeOf hT' ?_)
  rw [show (Value.type "dict" != Value.type "dict")=false by decide]
  refine wpAny_bind (m:=notTheModulesDict _ _) (wpAny_of_eq (a:=()) (notModules ha) ?_)
  clear hT' ha
  have hp:=hd.push { cls:=.type "dict",data:=.dict #[] }
  have hz':([]:List Nat).length+l.length ≤ lim:=(Nat.zero_add _).symm ▸ hz
  obtain ⟨o,es,ep,g',q1,q2,q3,q4,q5⟩:=hp
  refine wpAny_bind (wpAny_dictEntries g' q2 ?_)
  refine wpAny_bind (wpAny_mono (wpAny_forIn_array' _ (fun rest _ s'=>MtI prog w s l rest s') (fun _ s'=>MtI prog w s l [] s') ?_ (fun _ _ H=>H) _ _ ⟨l,[],_,s.toks,KE.of q4,h1,hz',rfl,rfl,fun b o e=>Heap.get?_push_of_some _ e,Heap.DictOf.new s.heap⟩) ?_ fun _ _ e=>e)
  · clear h hd g' q1 q2 q3 q4 q5 h1 hz hz'
    intro e rest _ s' H
    cases H with
    | mk m acc h' tk hk hm hl hf es kp hd =>
      rw [es]
      clear es
      cases hk.step hm with
      | mk c t m' ek ev em hk hm =>
        rw [ek,ev]
        rw [em] at hl hf
        clear ek ev em
        refine wpAny_bind (m:=asStr? _) (wpAny_pure ?_)
        show wpAny _ _ (mkInt (c:Int) >>= _) _ _ _
        refine wpAny_bind (wpAny_mkInt ?_)
        refine wpAny_bind (wpAny_dictSet_pairs (knd:=intKind prog w) (k:=(c:Int)) (kvs:=ordsOf acc) (beq_self_eq_true (c:Int)) hd (fun h2 hd2 sb=>?_) (ords_small hl))
        rw [stored_ord] at hd2
        exact wpAny_pure ⟨m',_,h2,_,hk,hm,ords_len hl,hf,rfl,fun b o e=>(sb.2 b (Nat.ne_of_lt (Heap.lt_size e))).trans (kp b o e),hd2⟩
  · intro _ s' H
    cases H with
    | mk m acc h' tk hk hm hl hf es kp hd =>
      cases hk
      rw [es]
      exact wpAny_pure (wpAny_pure (h h' tk kp (hf ▸ hd)))
end
end Mine
end
section
open PySem PySem.W PySem.Calls PyProof.Rows
set_option tactic.hygienic false
namespace Mine
theorem sub_key_lookup:isSubtype (.type "KeyError") (.type "LookupError")=pure true:=by rw [isSubtype_type]; kernel_rfl
section
variable {prog:Program} {w:World} {A:Around} {E:Value→Shared→Prop} {s:Shared} {R:Result→Shared→Prop}
theorem getItem_miss {d:Addr} {k:Int} {u:Tok} {kvs:List (Int × Value)} {Q:Value→Shared→Prop} (hh:A.handled=none) (hs:(d == sysModules)=false) (hd:s.heap.DictOf (intKind prog w) d kvs) (hv:valueAt kvs k=none)
    (h:∀ e h' tk,(∀ b o,s.heap.get? b=some o→h'.get? b=some o)→Shared.TypeIs { s with heap:=h',toks:=tk } (.ref e) "KeyError"→E (.ref e) { s with heap:=h',toks:=tk }) :
    wpAny (model prog w) A (getItem (.ref d) (.int k u)) Q E s:=by
  unfold getItem
  refine wpAny_holding ?_
  refine wpAny_bind (wpAny_sequenceKey hd.typeIs (by decide) ?_)
  refine wpAny_bind (wpAny_callSpecial?_slot (name:=Str.ofString "__getitem__") hd.typeIs slot_dict_getitem
    (wpAny_call_entry slot_dict_getitem hd.typeIs entry_dict_getitem ?_ (args_dict_getitem _ _)))
  show wpAny _ _ (dictGet d (.int k u) >>= _) _ _ s
  refine wpAny_bind (wpAny_dictGet_of (k:=k) (by show (k == k)=true; simp) hd.mapOf ?_)
  rw [hv]
  dsimp only
  have hT:Shared.TypeIs { s with toks:=s.toks+1 } (.ref d) "dict":=hd.typeIs
  refine wpAny_bind (m:=Builtin.Dict.missed _ _) (wpAny_of_eq (a:=Option.none) (by unfold Builtin.Dict.missed; rw [hs]; rfl) ?_)
  dsimp only
  refine wpAny_bind (wpAny_typeOf hT ?_)
  have hb:(Value.type "dict" != Value.type "dict")=false:=by decide
  rw [hb]
  refine wpAny_bind (wpAny_rule ?_)
  refine wpAny_bind ?_
  simp only [newExc,newTuple]
  refine wpAny_bind (wpAny_newObj_type ?_ (by size_fits))
  refine wpAny_bind (m:=firstArgMember _ _) (wpAny_of_eq (a:=Value.none) (by first | rfl | (simp only [firstArgMember]; rfl)) ?_)
  refine wpAny_newObj_type ?_ (by size_fits)
  simp only [raiseNew]
  refine wpAny_bind (wpAny_handled ?_)
  first | rw [show A.in1.handled=none from hh] | rw [hh]
  refine wpAny_bind (wpAny_pure (wpAny_throw ?_))
  exact h _ _ _ (fun b o e=>Heap.get?_push_of_some _ (Heap.get?_push_of_some _ e)) ⟨_,Heap.get?_push_size _ rfl,rfl⟩
theorem valueAt_ords (l:List Nat) (c:Nat):valueAt (ordsOf l) (c:Int)=if l.contains c then some .none else none:=by
  induction l with
  | nil=>rfl
  | cons a l ih =>
    unfold valueAt at ih ⊢
    unfold ordsOf at ih ⊢
    rw [List.map_cons,List.find?_cons]
    by_cases h:a=c
    · subst h; simp
    · have h1:¬ ((a:Int)=(c:Int)):=fun e=>h (Int.ofNat.inj e)
      have h2:¬ (c=a):=fun e=>h e.symm
      simp only [h1,decide_false]
      rw [ih]
      simp [List.contains_cons,h2]
theorem lookup_ords {d:Addr} {l:List Nat} {c:Nat} {Q:Builtin.Str.Mapped→Shared→Prop} (hh:A.handled=none) (hs:(d == sysModules)=false) (hd:s.heap.DictOf (intKind prog w) d (ordsOf l))
    (h:∀ h' tk,(∀ b o,s.heap.get? b=some o→h'.get? b=some o)→Q (if l.contains c then .drop else .keep) { s with heap:=h',toks:=tk }) :
    wpAny (model prog w) A (Builtin.Str.tableLookup (.ref d) c) Q E s:=by
  unfold Builtin.Str.tableLookup
  refine wpAny_bind (wpAny_attempt (wpAny_bind (wpAny_mkInt ?_)))
  have hv:=valueAt_ords l c
  by_cases hc:l.contains c=true
  · rw [if_pos hc] at hv
    refine wpAny_getItem_of (k:=(c:Int)) (knd:=intKind prog w) (by show ((c:Int) == (c:Int))=true; simp) (Heap.DictOf.mapOf hd) hv ?_
    have:=h s.heap (s.toks+1+1) (fun _ _ e=>e)
    rw [if_pos hc] at this
    exact wpAny_pure this
  · rw [if_neg hc] at hv
    refine getItem_miss (kvs:=ordsOf l) hh hs hd hv fun e h' tk hk hT=>?_
    refine wpAny_bind (wpAny_isInstance hT sub_key_lookup ?_)
    have:=h h' tk hk
    rw [if_neg hc] at this
    exact wpAny_bind (wpAny_rule (wpAny_pure this))
open PySem.Builtin.Str (tooLong Mapped tableLookup)
abbrev TSt:=List Str × Nat × Bool × List (Nat × Option Nat) × Bool
noncomputable def trSlow (tb:Value) (c:Nat) (ps:List Str) (tot:Nat) (fast:Bool) (known:List (Nat × Option Nat)) (aft:Bool):Sem (ForInStep TSt):=do
  match ← tableLookup tb c with
  | .keep=>pure (.yield (⟨#[c]⟩ :: ps,tot+1,fast,known,aft))
  | .drop=>pure (.yield (ps,tot,fast,known,true))
  | .char d=>pure (.yield (⟨#[d]⟩ :: ps,tot+1,fast,known,aft))
  | .text t=>pure (.yield (t :: ps,tot+t.length,fast,known,aft))
noncomputable def trSlow2 (tb:Value) (c:Nat) (ps:List Str) (tot:Nat) (fast:Bool) (known:List (Nat × Option Nat)) (aft:Bool):Sem (ForInStep TSt) :=
  if aft=true then do
    match ← tableLookup tb c with
    | .drop=>pure (.yield (ps,tot,fast,known,aft))
    | _=>trSlow tb c ps tot fast known false
  else trSlow tb c ps tot fast known aft
noncomputable def trAns (tb:Value) (c:Nat) (ps:List Str) (tot:Nat) (fast:Bool) (known:List (Nat × Option Nat)) (aft:Bool) (answer:Option (Option Nat)):Sem (ForInStep TSt) :=
  match answer with
  | some (some d)=>pure (.yield (⟨#[d]⟩ :: ps,tot+1,fast,known,aft))
  | some none=>pure (.yield (ps,tot,fast,known,aft))
  | none=>do
    rule "str.translate.fast-road-left"
    trSlow2 tb c ps tot false known aft
noncomputable def trMap (c:Nat) (m:Mapped):Option (Option Nat):=match m with
  | .keep=>some (some c)
  | .drop=>some none
  | .char d=>if d < 128 then some (some d) else none
  | .text t=>if t.length == 1&&t.cps.all (· < 128) then some t.cps[0]? else none
noncomputable def trNew (tb:Value) (c:Nat) (ps:List Str) (tot:Nat) (fast:Bool) (known:List (Nat × Option Nat)) (aft:Bool) (a:Option (Option Nat)):Sem (ForInStep TSt) :=
  match a with
  | some x=>do
    let answer ← pure a
    trAns tb c ps tot fast ((c,x) :: known) aft answer
  | _=>do
    let answer ← pure a
    trAns tb c ps tot fast known aft answer
noncomputable def trFast (tb:Value) (c:Nat) (ps:List Str) (tot:Nat) (fast:Bool) (known:List (Nat × Option Nat)) (aft:Bool):Sem (ForInStep TSt) :=
  match List.lookup c known with
  | some a=>do
    let answer ← pure (some a)
    trAns tb c ps tot fast known aft answer
  | none=>do
    let m ← tableLookup tb c
    trNew tb c ps tot fast known aft (trMap c m)
noncomputable def trGo (tb:Value) (c:Nat) (ps:List Str) (tot:Nat) (fast:Bool) (known:List (Nat × Option Nat)) (aft:Bool):Sem (ForInStep TSt) :=
  if fast=true then trFast tb c ps tot fast known aft else trSlow2 tb c ps tot fast known aft
noncomputable def trBody (tb:Value) (c:Nat) (st:TSt):Sem (ForInStep TSt):=match st with
  | (ps,tot,fast,known,aft)=>if tooLong tot=true then do
      unsupported "str.translate:memory"
      trGo tb c ps tot fast known aft
    else trGo tb c ps tot fast known aft
noncomputable def KnOk (l:List Nat) (known:List (Nat × Option Nat)):Prop:=∀ c r,List.lookup c known=some r→r=if l.contains c then none else some c
theorem KnOk.add {l:List Nat} {known:List (Nat × Option Nat)} (h:KnOk l known) (c:Nat):KnOk l ((c,if l.contains c then none else some c) :: known):=by
  intro c' r e
  rw [List.lookup_cons] at e
  cases hcc:c' == c with
  | true =>
    rw [hcc] at e
    cases e
    rw [eq_of_beq hcc]
  | false=>rw [hcc] at e; exact h c' r e
section
variable {c:Nat} {ps:List Str} {tot:Nat} {l:List Nat} {d:Addr} {Z:ForInStep TSt→Shared→Prop}
noncomputable def TrZ (l:List Nat) (c:Nat) (ps:List Str) (tot:Nat) (Z:ForInStep TSt→Shared→Prop) (s:Shared):Prop:=∀ ps' tot' fast' known' aft' h2 tk2,ps'=(if l.contains c then ps else (⟨#[c]⟩:Str) :: ps)→tot' ≤ tot+1→KnOk l known' →
  (∀ b o,s.heap.get? b=some o→h2.get? b=some o)→Z (.yield (ps',tot',fast',known',aft')) { s with heap:=h2,toks:=tk2 }
theorem TrZ.on {h':Heap} {tk:Nat} (z:TrZ l c ps tot Z s) (k:∀ b o,s.heap.get? b=some o→h'.get? b=some o):TrZ l c ps tot Z { s with heap:=h',toks:=tk } :=
  fun _ _ _ _ _ _ _ e1 e2 e3 e4=>z _ _ _ _ _ _ _ e1 e2 e3 fun b o e=>e4 b o (k b o e)
theorem ord_keep (hd:s.heap.DictOf (intKind prog w) d (ordsOf l)) {h':Heap} {tk:Nat} (k:∀ b o,s.heap.get? b=some o→h'.get? b=some o):({ s with heap:=h',toks:=tk }:Shared).heap.DictOf (intKind prog w) d (ordsOf l):=by
  obtain ⟨o,es,ep,g,r⟩:=hd
  exact ⟨o,es,ep,k _ _ g,r⟩
theorem trSlow_wp {fast:Bool} {known:List (Nat × Option Nat)} {aft:Bool} (hh:A.handled=none) (hs:(d == sysModules)=false) (hd:s.heap.DictOf (intKind prog w) d (ordsOf l)) (hk:KnOk l known) (z:TrZ l c ps tot Z s):wpAny (model prog w) A (trSlow (.ref d) c ps tot fast known aft) Z E s:=by
  refine wpAny_bind (lookup_ords hh hs hd fun h2 tk2 kp2=>?_)
  cases hc:l.contains c with
  | true=>exact wpAny_pure (z _ _ _ _ _ _ _ (by rw [hc]; rfl) (Nat.le_succ tot) hk kp2)
  | false=>exact wpAny_pure (z _ _ _ _ _ _ _ (by rw [hc]; rfl) (Nat.le_refl _) hk kp2)
theorem trSlow2_wp {fast:Bool} {known:List (Nat × Option Nat)} {aft:Bool} (hh:A.handled=none) (hs:(d == sysModules)=false) (hd:s.heap.DictOf (intKind prog w) d (ordsOf l)) (hk:KnOk l known) (z:TrZ l c ps tot Z s):wpAny (model prog w) A (trSlow2 (.ref d) c ps tot fast known aft) Z E s:=by
  cases aft with
  | false=>exact trSlow_wp hh hs hd hk z
  | true =>
    refine wpAny_bind (lookup_ords hh hs hd fun h2 tk2 kp2=>?_)
    cases hc:l.contains c with
    | true=>exact wpAny_pure (z _ _ _ _ _ _ _ (by rw [hc]; rfl) (Nat.le_succ tot) hk kp2)
    | false=>exact trSlow_wp hh hs (ord_keep hd kp2) hk (z.on kp2)
theorem trAns_wp {fast:Bool} {known:List (Nat × Option Nat)} {aft:Bool} (hk:KnOk l known) (z:TrZ l c ps tot Z s) {h':Heap} {tk:Nat} (k:∀ b o,s.heap.get? b=some o→h'.get? b=some o) :
    wpAny (model prog w) A (trAns (.ref d) c ps tot fast known aft (some (if l.contains c then none else some c))) Z E { s with heap:=h',toks:=tk }:=by
  cases hc:l.contains c with
  | true=>exact wpAny_pure (z _ _ _ _ _ _ _ (by rw [hc]; rfl) (Nat.le_succ tot) hk k)
  | false=>exact wpAny_pure (z _ _ _ _ _ _ _ (by rw [hc]; rfl) (Nat.le_refl _) hk k)
theorem trFast_wp {fast:Bool} {known:List (Nat × Option Nat)} {aft:Bool} (hh:A.handled=none) (hs:(d == sysModules)=false) (hd:s.heap.DictOf (intKind prog w) d (ordsOf l)) (hk:KnOk l known) (z:TrZ l c ps tot Z s):wpAny (model prog w) A (trFast (.ref d) c ps tot fast known aft) Z E s:=by
  unfold trFast
  cases hl:List.lookup c known with
  | some r =>
    cases hk c r hl
    exact wpAny_bind (wpAny_pure (trAns_wp hk z fun _ _ e=>e))
  | none =>
    refine wpAny_bind (lookup_ords hh hs hd fun h2 tk2 kp2=>?_)
    rw [show trMap c (if l.contains c=true then .drop else .keep)=some (if l.contains c then none else some c) by cases l.contains c<;>rfl]
    exact wpAny_bind (wpAny_pure (trAns_wp (hk.add c) z kp2))
theorem trBody_wp {fast:Bool} {known:List (Nat × Option Nat)} {aft:Bool} (hlong:tooLong tot=false) (hh:A.handled=none) (hs:(d == sysModules)=false) (hd:s.heap.DictOf (intKind prog w) d (ordsOf l)) (hk:KnOk l known) (z:TrZ l c ps tot Z s):wpAny (model prog w) A (trBody (.ref d) c (ps,tot,fast,known,aft)) Z E s:=by
  unfold trBody
  dsimp only
  rw [hlong,if_neg Bool.false_ne_true]
  cases fast with
  | true=>exact trFast_wp hh hs hd hk z
  | false=>exact trSlow2_wp hh hs hd hk z
end
theorem cat_signs (y:List Nat):(⟨(y.map fun c=>(⟨#[c]⟩:Str)).foldl (fun acc p=>acc++p.cps) #[]⟩:Str)=strV y:=by
  have:∀ (y:List Nat) (acc:Array Nat),(y.map fun c=>(⟨#[c]⟩:Str)).foldl (fun acc p=>acc++p.cps) acc=acc++y.toArray:=by
    intro y
    induction y with
    | nil=>intro acc; simp
    | cons c y ih=>intro acc; rw [List.map_cons,List.foldl_cons,ih]; apply Array.ext'; simp
  rw [this]
  simp [strV]
theorem not_long {n m:Nat} (h:n ≤ m) (hz:m ≤ lim):tooLong n=false:=by unfold tooLong; rw [← lim_line]; simp; omega
structure TrI (s:Shared) (l x rest:List Nat) (st:TSt) (s':Shared):Prop where
  at_:∃ pre,x=pre++rest∧st.1=((pre.filter fun c=>!l.contains c).map fun c=>(⟨#[c]⟩:Str)).reverse∧st.2.1 ≤ pre.length
  kn:KnOk l st.2.2.2.1
  on:∃ h' tk,s'={ s with heap:=h',toks:=tk }∧(∀ b o,s.heap.get? b=some o→h'.get? b=some o)
theorem TrI.step {x rest l:List Nat} {c:Nat} {ps:List Str} {tot:Nat} {pre:List Nat} (hx:x=pre++c :: rest) (hp:ps=((pre.filter fun c=>!l.contains c).map fun c=>(⟨#[c]⟩:Str)).reverse) (ht:tot ≤ pre.length) {ps':List Str} {tot':Nat} {fast' aft':Bool} {known':List (Nat × Option Nat)} {h2:Heap} {tk2:Nat}
    (e1:ps'=(if l.contains c then ps else (⟨#[c]⟩:Str) :: ps)) (e2:tot' ≤ tot+1) (e3:KnOk l known') (e4:∀ b o,s.heap.get? b=some o→h2.get? b=some o):TrI s l x rest (ps',tot',fast',known',aft') { s with heap:=h2,toks:=tk2 }:=by
  refine ⟨⟨pre++[c],by rw [hx,List.append_assoc]; rfl,?_,?_⟩,e3,h2,tk2,rfl,e4⟩
  · show ps'=_
    rw [e1,hp,List.filter_append,List.map_append,List.reverse_append]
    cases hc:l.contains c with
    | true=>rw [List.filter_cons,hc]; rfl
    | false=>rw [List.filter_cons,hc]; rfl
  · show tot' ≤ _
    rw [List.length_append]
    exact Nat.le_trans e2 (Nat.succ_le_succ ht)
theorem call_translate {a:Addr} {l x:List Nat} {t:Tok} {Q:Value→Shared→Prop} (hh:A.handled=none) (hs:(a == sysModules)=false) (hd:s.heap.DictOf (intKind prog w) a (ordsOf l)) (hz:x.length ≤ lim)
    (h:∀ h' tk u,(∀ b o,s.heap.get? b=some o→h'.get? b=some o)→Q (.str (strV (x.filter fun c=>!l.contains c)) u) { s with heap:=h',toks:=tk }) :
    wpAny (model prog w) A (call (.builtin "str.translate") [.str (strV x) t,.ref a]) Q E s:=by
  refine wpAny_call_entry F.slot_str_translate (typeIs_str _ _ _) F.entry_str_translate ?_ (F.args_str_translate_2 _ _)
  unfold Builtin.«str.translate»
  refine wpAny_bind (m:=Builtin.Str.strOneArg _ _) (wpAny_pure ?_)
  dsimp only
  rw [strV_len]
  cases h0:x.length == 0 with
  | true =>
    cases List.length_eq_zero_iff.mp (eq_of_beq h0)
    rw [if_pos rfl]
    refine wpAny_bind (wpAny_rule ?_)
    exact wpAny_bind (m:=Builtin.Str.strUnchanged _ _) (wpAny_pure (wpAny_pure ⟨_,rfl,h _ s.toks t fun _ _ e=>e⟩))
  | false =>
    rw [if_neg Bool.false_ne_true]
    refine wpAny_bind (wpAny_mono (wpAny_forIn_array' (trBody (.ref a)) (TrI s l x) (fun st s'=>TrI s l x [] st s') ?_ (fun _ _ e=>e) _ _ ?_) ?_ fun _ _ e=>e)
    · rintro c rest ⟨ps,tot,fast,known,aft⟩ s' ⟨⟨pre,hx,hp,ht⟩,hk,h',tk,rfl,kp⟩
      have hl:tot ≤ x.length:=by rw [hx,List.length_append]; exact Nat.le_trans ht (Nat.le_add_right _ _)
      exact trBody_wp (not_long hl hz) hh hs (ord_keep hd kp) hk fun _ _ _ _ _ _ _ e1 e2 e3 e4=>TrI.step hx hp ht e1 e2 e3 fun b o e=>e4 b o (kp b o e)
    · exact ⟨⟨[],rfl,rfl,Nat.le_refl _⟩,fun c r e=>by simp at e,s.heap,s.toks,rfl,fun _ _ e=>e⟩
    · rintro ⟨ps,tot,fast,known,aft⟩ s' ⟨⟨pre,hx,hp,ht⟩,hk,h',tk,rfl,kp⟩
      rw [List.append_nil] at hx
      dsimp only at hp ht ⊢
      rw [not_long ht (hx ▸ hz),if_neg Bool.false_ne_true,hp,List.reverse_reverse,cat_signs,← hx]
      refine wpAny_bind (wpAny_mkStr (wpAny_pure ⟨_,rfl,h _ _ _ kp⟩) ?_)
      rw [strV_len,← lim_line]
      exact Nat.le_trans (List.length_filter_le _ _) hz
end
end Mine
end
section
open PySem PySem.W PySem.Calls PyProof.Rows
set_option backward.match.sparseCases false
set_option tactic.hygienic false
namespace Mine
open PySem.Builtin.Str (occurrences)
section
variable {C:Cx} {A:Around} {fs:List FrD} {W:Wd} {os:List AO} {s:Shared} {d:Nat} {h:Heap}
theorem HR.newAt (H:HR C fs W os h) {h':Heap} (k:∀ b o,h.get? b=some o→h'.get? b=some o) {a:Addr} (ha:h.objs.size ≤ a) {ao:AO} {o:Obj} (g:h'.get? a=some o) (r:OR C ⟨W.φ++[a],W.kp⟩ ao o) :
    HR C fs ⟨W.φ++[a],W.kp⟩ (os++[ao]) h' where
  base b o' e:=k b o' (H.base b o' e)
  kept p m:=k _ _ (H.kept p m)
  len:=by simp [H.len]
  objs i o' b e1 e2:=by
    have le:W.le ⟨W.φ++[a],W.kp⟩:=⟨List.prefix_append _ _,fun _ m=>m⟩
    by_cases hi:i < os.length
    · rw [List.getElem?_append_left hi] at e1
      rw [List.getElem?_append_left (by rw [H.len]; exact hi)] at e2
      obtain ⟨ob,x,y⟩:=H.objs i o' b e1 e2
      exact ⟨ob,k _ _ x,y.mono le⟩
    · have:i=os.length:=by
        have:=(List.getElem?_eq_some_iff.mp e1).1
        simp at this
        omega
      subst this
      rw [List.getElem?_append_right (Nat.le_refl _)] at e1
      rw [List.getElem?_append_right (by rw [H.len]; exact Nat.le_refl _)] at e2
      simp [H.len] at e1 e2
      subst e1 e2
      exact ⟨o,g,r⟩
  frames f m:=FR.mono (leN W _) ((H.frames f m).at fun _ e=>k _ _ e)
  nodup:=by
    rw [← List.append_assoc]
    refine List.nodup_append.mpr ⟨H.nodup,by simp,?_⟩
    intro x hx b hb
    simp at hb
    subst hb
    exact Nat.ne_of_lt (Nat.lt_of_lt_of_le (H.lt hx) ha)
  apart b m:=by
    rw [← List.append_assoc] at m
    rcases List.mem_append.mp m with m | m
    · exact H.apart b m
    · simp at m
      subst m
      refine ⟨?_,fun p hp=>Nat.ne_of_lt (Nat.lt_of_lt_of_le (H.keptLt hp) ha)⟩
      cases q:C.h₀.get? b with
      | none=>rfl
      | some o=>exact absurd (Heap.lt_size (H.base _ _ q)) (Nat.not_lt.mpr ha)
theorem Sat.madeAt {t:Sem Value} {ao:AO} {Z:Obj→Prop} (H:HR C fs W os s.heap) (r:∀ o,Z o→OR C ⟨W.φ++[s.heap.objs.size],W.kp⟩ ao o)
    (h:∀ (Q:Value→Shared→Prop) (E:Value→Shared→Prop),(∀ h' tk o,(∀ b o,s.heap.get? b=some o→h'.get? b=some o)→h'.get? s.heap.objs.size=some o→Z o→Q (.ref s.heap.objs.size) { s with heap:=h',toks:=tk })→wpAny (model C.prog C.w) A t Q E s) :
    Sat C A t VR fs W (.ok (.obj os.length) (os++[ao])) s:=fun _=>h _ _ fun h' tk o k g z =>
  ⟨.obj os.length,os++[ao],_,rfl,leN W _,H.newAt k (Nat.le_refl _) g (r o z),.obj _ _ (by simp [H.len]),⟨rfl,rfl,rfl⟩⟩
theorem HR.noSys (H:HR C fs W os h) (hsm:∃ o,C.h₀.get? sysModules=some o) {i:Nat} {a:Addr} (e:W.φ[i]?=some a):(a == sysModules)=false:=by
  obtain ⟨o,ho⟩:=hsm
  have:=H.off (List.mem_append_right _ (List.mem_of_getElem? e)) ho
  simpa using this.symm
theorem sat_fromk {v:V} {x:Value} (p:VR W v x) (H:HR C fs W os s.heap) (hn:A.handled=none):Sat C A (call (.builtin "dict.fromkeys") [.type "dict",x]) VR fs W (bi1 os .fromkeys v) s:=by
  refine Sat.opt fun x e=>?_
  cases p.str? e with
  | mk t hl =>
    refine Sat.madeAt (Z:=fun o=>DObj (strKind C.prog C.w) o (keysOf (x.foldl addKey []))) H (fun o e=>.keys _ _ e) fun Q E hQ=>call_fromkeys hn (by simpa [strV] using hl) fun h' tk k hd=>?_
    obtain ⟨o,g,z⟩:=DObj.of hd
    exact hQ h' tk o k g z
theorem sat_biAll {b:BI} {vs:List V} {xs:List Value} (hv:VRs W vs xs) (H:HR C fs W os s.heap) (hh:b=.fromkeys→A.handled=none) (hu:A.units+10 < cLine) :
    Sat C A (call (biVal b) (biArgs b xs)) VR fs W (biOp os b vs) s:=by
  cases hv with
  | nil=>cases b with
    | deque=>exact Sat.madeAt (Z:=fun o=>o=dqOf [] 0) H (fun o e=>e ▸ .deque _ _ _ .nil (Nat.zero_le _)) fun Q E hQ=>call_deque fun h' k _ g=>hQ h' _ _ k g rfl
    | _=>exact Sat.fail
  | cons p ps=>cases ps with
    | nil =>
      by_cases h2:b=.fromkeys
      · cases h2
        exact sat_fromk p H (hh rfl)
      · exact sat_bi1 h2 p H hu
    | cons _ _=>exact Sat.fail
noncomputable def bmVal (os:List AO):BM→V→Value
  | .find,_=>.builtin "str.find"
  | .join,_=>.builtin "str.join"
  | .append,.obj i=>match os[i]? with
    | some (.deque _)=>.builtin "collections.deque.append"
    | _=>.builtin "list.append"
  | .append,_=>.builtin "list.append"
  | .pop,_=>.builtin "collections.deque.pop"
  | .maketrans,_=>.builtin "str.maketrans"
  | .translate,_=>.builtin "str.translate"
noncomputable def bmSelf:BM→Value→List Value
  | .maketrans,_=>[]
  | _,x=>[x]
theorem fromIndex_nat {n:Nat} {p:Int} (h:0 ≤ p):fromIndex n p=p.toNat:=by
  unfold fromIndex
  rw [if_neg (by omega)]
  congr 1
  omega
theorem find_txt (l:List Nat) (c:Nat):Txt.find (strV l) (strV [c])=findC c l 0 l.length:=by
  rw [← find_is c l 0 l.length (Nat.le_refl _)]; unfold Txt.find; rw [strV_len]; rfl
theorem find3_txt (l:List Nat) (c:Nat) {i:Int} (h:0 ≤ i):Txt.find3 (strV l) (strV [c]) i=findC c l i.toNat l.length:=by
  rw [← find_is c l i.toNat l.length (Nat.le_refl _)]; unfold Txt.find3; rw [fromIndex_nat h,strV_len]; rfl
theorem find4_txt (l:List Nat) (c:Nat) {i j:Int} (h:0 ≤ i) (h2:0 ≤ j) (h3:j ≤ l.length) :
    (match occurrences (strV l) (strV [c]) (fromIndex (strV l).length i) (min (fromIndex (strV l).length j) (strV l).length) 1 with | k :: _=>(k:Int) | []=>-1)=findC c l i.toNat j.toNat:=by
  rw [fromIndex_nat h,fromIndex_nat h2,strV_len,Nat.min_eq_left (by omega)]
  exact find_is c l i.toNat j.toNat (by omega)
theorem bmVal_list {i:Nat} {ws:List V} (e0:os[i]?=some (.list ws)):bmVal os .append (.obj i)=.builtin "list.append":=by unfold bmVal; dsimp only; rw [e0]
theorem bmVal_deque {i:Nat} {ws:List V} (e0:os[i]?=some (.deque ws)):bmVal os .append (.obj i)=.builtin "collections.deque.append":=by unfold bmVal; dsimp only; rw [e0]
theorem VRs.dropLast {vs:List V} {xs:List Value} (h:VRs W vs xs):VRs W vs.dropLast xs.dropLast:=by
  rw [List.dropLast_eq_take,List.dropLast_eq_take,h.length]
  exact h.take _
theorem VRs.last {vs:List V} {xs:List Value} (h:VRs W vs xs) {v:V} (e:vs.getLast?=some v):∃ x,xs.getLast?=some x∧VR W v x:=by
  rw [List.getLast?_eq_getElem?] at e ⊢
  rw [h.length]
  exact h.get e
theorem sat_find {l:List Nat} {t:Tok} {vs:List V} {xs:List Value} (hv:VRs W vs xs) (H:HR C fs W os s.heap):Sat C A (call (.builtin "str.find") (.str (strV l) t :: xs)) VR fs W (findOp os l vs) s:=by
  cases hv with
  | nil=>exact Sat.fail
  | cons p ps =>
    refine Sat.opt fun c e=>?_
    cases p.chr? e
    cases ps with
    | nil=>exact Sat.ofI H fun Z E h=>SC.find (by rw [find_txt]; exact h _ _)
    | cons p ps =>
      refine Sat.opt fun i e=>?_
      cases p.int? e
      cases ps with
      | nil =>
        refine Sat.ite fun q=>Sat.ofI H fun Z E h=>SC.find3 ?_
        rw [find3_txt _ _ (of_decide_eq_true (and_of q).1)]
        exact h _ _
      | cons p ps =>
        refine Sat.opt fun j e=>?_
        cases p.int? e
        cases ps with
        | nil =>
          refine Sat.ite fun q=>Sat.ofI H fun Z E h=>find4 ?_
          obtain ⟨q,q4⟩:=and_of q
          obtain ⟨q,q3⟩:=and_of q
          obtain ⟨q1,q2⟩:=and_of q
          have q1:=of_decide_eq_true q1
          refine Eq.mpr (congrArg (fun z=>Z (.int z s.toks) { s with toks:=s.toks+1 }) (find4_txt _ _ q1 (Int.le_trans q1 (of_decide_eq_true q2)) (of_decide_eq_true q3))) (h _ _)
        | cons _ _=>exact Sat.fail
theorem sat_app {o:AO} {i:Nat} {a:Addr} {ob:Obj} {v:V} {y:Value} (e0:os[i]?=some o) (ea:W.φ[i]?=some a) (g:s.heap.get? a=some ob) (r:OR C W o ob) (p:VR W v y) (H:HR C fs W os s.heap) :
    Sat C A (call (bmVal os .append (.obj i)) [.ref a,y]) VR fs W (appOp os i v o) s:=by
  cases r with
  | list vs xs n r l =>
    refine Sat.ite fun hz=>?_
    rw [bmVal_list e0]
    intro _
    refine append_at g (fun h' sb g'=>⟨_,_,W,rfl,.refl _,H.upd ea sb g' ?_,.none,⟨rfl,rfl,rfl⟩⟩) (by rw [List.size_toArray,← lim_line,r.length]; exact l)
    have:=OR.list (C:=C) (vs++[v]) _ (n+1) (r.append (.cons p .nil)) (by rw [List.length_append]; exact hz)
    simpa using this
  | deque vs xs st r l =>
    refine Sat.ite fun hz=>?_
    rw [bmVal_deque e0]
    intro _
    exact deque_append g (by rw [r.length]; exact l) fun h' sb g'=>⟨_,_,W,rfl,.refl _,H.upd ea sb g' (.deque _ _ _ (r.append (.cons p .nil)) (by rw [List.length_append]; exact Nat.le_trans hz (by decide))),.none,⟨rfl,rfl,rfl⟩⟩
  | _=>exact Sat.fail
theorem sat_pop {a:V} {x:Value} (ha:VR W a x) (H:HR C fs W os s.heap):Sat C A (call (.builtin "collections.deque.pop") [x]) VR fs W (R.opt a.obj? fun i=>R.opt (os[i]?.bind AO.deque?) fun vs=>R.opt vs.getLast? fun v=>.ok v (os.set i (.deque vs.dropLast))) s:=by
  cases ha with
  | obj i a' ea =>
    refine Sat.opt (rel:=VR) fun j ej=>Sat.opt fun vs ev=>Sat.opt fun v el=>?_
    cases ej
    obtain ⟨o,e0,e2⟩:=bindSome ev
    cases AO.deque_of e2
    obtain ⟨ob,g,r⟩:=H.objs _ _ _ e0 ea
    cases r with
    | deque _ ys st r lx =>
      obtain ⟨y,e1,e2⟩:=r.last el
      intro _
      exact deque_pop g e1 (by rw [r.length]; exact lx) fun h' sb g'=>⟨_,_,W,rfl,.refl _,H.upd ea sb g' (.deque _ _ _ r.dropLast (by rw [List.length_dropLast]; exact Nat.le_trans (Nat.sub_le _ _) lx)),e2,⟨rfl,rfl,rfl⟩⟩
  | _=>exact Sat.fail
theorem sat_mktr {v:V} {y:Value} (hsm:∃ o,C.h₀.get? sysModules=some o) (p:VR W v y) (H:HR C fs W os s.heap):Sat C A (call (.builtin "str.maketrans") [y]) VR fs W (R.opt ((objAt os v).bind AO.keys?) fun l=>if l.all (fun k=>k.length == 1)&&decide (l.length ≤ lim) then .ok (.obj os.length) (os++[.ords (l.flatten.foldl addOrd [])]) else .fail) s:=by
  refine Sat.opt fun l el=>Sat.ite fun hz=>?_
  obtain ⟨hall,hlen⟩:=and_of hz
  obtain ⟨o,e0,e2⟩:=bindSome el
  cases AO.keys_of e2
  cases H.obj? p e0 with
  | mk i a ob _ ea g q=>cases q with
    | keys _ _ q =>
      refine Sat.madeAt (Z:=fun o=>DObj (intKind C.prog C.w) o (ordsOf (l.flatten.foldl addOrd []))) H (fun o e=>.ords _ _ e) fun Q E hQ=>call_maketrans (H.noSys hsm ea) (q.at g) hall (of_decide_eq_true hlen) fun h' tk k hd=>?_
      obtain ⟨o,g,z⟩:=DObj.of hd
      exact hQ h' tk o k g z
theorem sat_transl {v:V} {y:Value} {l:List Nat} {t:Tok} (hsm:∃ o,C.h₀.get? sysModules=some o) (p:VR W v y) (H:HR C fs W os s.heap) (hh:A.handled=none) (hl:l.length ≤ lim) :
    Sat C A (call (.builtin "str.translate") [.str (strV l) t,y]) VR fs W (R.opt ((objAt os v).bind AO.ords?) fun d=>.ok (.str (l.filter fun c=>!d.contains c)) os) s:=by
  refine Sat.opt fun d ed=>?_
  obtain ⟨o,e0,e2⟩:=bindSome ed
  cases AO.ords_of e2
  cases H.obj? p e0 with
  | mk i a ob _ ea g q=>cases q with
    | ords _ _ q=>exact Sat.of rfl H fun Q E hP=>call_translate hh (H.noSys hsm ea) (q.at g) hl fun h' tk u k=>hP _ _ (.str _ _ (Nat.le_trans (List.length_filter_le _ _) hl)) k ⟨rfl,rfl,rfl⟩
theorem sat_join {v:V} {y:Value} {l:List Nat} {t:Tok} (p:VR W v y) (H:HR C fs W os s.heap) :
    Sat C A (call (.builtin "str.join") [.str (strV l) t,y]) VR fs W (if l.isEmpty then R.opt (listAt os v) fun vs=>R.opt (strsOf vs) fun l=>if l.flatten.length ≤ lim then .ok (.str l.flatten) os else .fail else .fail) s:=by
  refine Sat.ite fun he=>Sat.opt fun vs ev=>Sat.opt fun ls es=>Sat.ite fun hz=>?_
  cases List.isEmpty_iff.mp he
  cases H.lst? p ev with
  | mk i a ys n _ _ g r lx =>
    refine Sat.ofS H hz fun Z E h=>join_list (isList_of g) (strs_are r es) ?_ ?_
    · rw [show (strV []).length=0 from rfl,Nat.mul_zero,Nat.add_zero,List.map_map]
      rw [List.length_flatten] at hz
      refine Nat.le_trans (Nat.le_of_eq (congrArg List.sum (List.map_congr_left fun x _=>?_))) hz
      exact strV_len x
    · intro t' k
      rw [join_cat]
      exact h _ _
theorem sat_bm {m:BM} {a:V} {x:Value} {vs:List V} {xs:List Value} (hsm:∃ o,C.h₀.get? sysModules=some o) (ha:VR W a x) (hv:VRs W vs xs) (H:HR C fs W os s.heap) (hh:m=.translate→A.handled=none) :
    Sat C A (call (bmVal os m a) (bmSelf m x++xs)) VR fs W (bmOp os m a vs) s:=by
  cases m with
  | find =>
    refine Sat.opt fun l e=>?_
    cases ha.str? e
    exact sat_find hv H
  | join =>
    refine Sat.opt fun l e=>Sat.opt fun v ev=>?_
    cases ha.str? e
    cases hv.one ev with
    | mk y p=>exact sat_join p H
  | append =>
    refine Sat.opt fun v ev=>?_
    cases hv.one ev with
    | mk y p=>cases ha with
      | obj i a' ea =>
        refine Sat.opt (rel:=VR) fun j ej=>Sat.opt fun o e0=>?_
        cases ej
        obtain ⟨ob,g,r⟩:=H.objs _ _ _ e0 ea
        exact sat_app e0 ea g r p H
      | _=>exact Sat.fail
  | pop=>cases hv with
    | nil=>exact sat_pop ha H
    | cons _ _=>exact Sat.fail
  | maketrans =>
    refine Sat.opt fun l e=>Sat.opt fun v ev=>?_
    cases hv.one ev with
    | mk y p=>exact sat_mktr hsm p H
  | translate =>
    refine Sat.opt fun l e=>Sat.opt fun v ev=>?_
    cases ha.str? e with
    | mk t hl=>cases hv.one ev with
      | mk y p=>exact sat_transl hsm p H (hh rfl) hl
end
end Mine
end
section
open PySem PySem.W PySem.Calls PyProof.Rows
set_option backward.match.sparseCases false
set_option tactic.hygienic false
namespace Mine
noncomputable def BR (_:Wd) (v:V) (b:Bool):Prop:=v=.bool b
section
variable (C:Cx) (A:Around) (fs:List FrD)
noncomputable def ES (t:Sem Value) (c:List AO→R V):Prop:=∀ W os s,HR C fs W os s.heap→Sat C A t VR fs W (c os) s
noncomputable def TS (t:Sem Bool) (c:List AO→R V):Prop:=∀ W os s,HR C fs W os s.heap→Sat C A t BR fs W (c os) s
noncomputable def LS (ts:List (Bool × Sem Value)) (c:List AO→R (List V)):Prop:=∀ W os s,HR C fs W os s.heap→Sat C A (spliced ts) VRs fs W (c os) s
end
section
variable {C:Cx} {A:Around} {fs:List FrD} {W:Wd} {os:List AO} {s:Shared} {d:Nat}
theorem Sat.operate {vs:List Value} {t:Sem Value} {r:R V} (h:Sat C A t VR fs W r s):Sat C A (PySem.operate vs t) VR fs W r s:=fun hf=>wpAny_operate' (h hf)
theorem Sat.bindP {α β γ:Type} {rel:Wd→α→β→Prop} {x:γ} {k:γ→Sem β} {r:R α} (h:Sat C A (k x) rel fs W r s):Sat C A (Pure.pure x >>= k) rel fs W r s:=fun hf=>wpAny_bind (wpAny_pure (h hf))
theorem R.bind_ok {α:Type} (r:R α):r.bind (fun a s=>.ok a s)=r:=by cases r<;>rfl
theorem sat_truth {v:V} {x:Value} (hv:VR W v x) (H:HR C fs W os s.heap):Sat C A (truthy x) BR fs W (match truth os v with | some b=>(.ok (.bool b) os:R V) | none=>.fail) s:=by
  cases e:truth os v with
  | none=>exact Sat.fail
  | some b=>exact fun _=>sat_truthy hv H e fun tk=>⟨.bool b,os,W,rfl,.refl _,H,rfl,⟨rfl,rfl,rfl⟩⟩
theorem ts_of {e:Expr} {env:Env} {c:List AO→R V} (hd:isTrue e env (eval e env)=(do let v ← eval e env; standAt e.pos; holding [v] (truthy v))) (h:ES C A fs (eval e env) c) :
    TS C A fs (isTrue e env (eval e env)) (fun os=>fin true (c os)):=by
  intro W os s H
  rw [hd]
  refine Sat.bind (h W os s H) fun a os' W' x s' le H' q=>?_
  exact Sat.standAt (Sat.holding (sat_truth q H'))
theorem es_none {k:Nat} {pos:Pos} {env:Env}:ES C A fs (eval (.Constant .none k pos) env) (fun os=>.ok .none os):=fun W os s H=>Sat.pure H .none
theorem es_bool {k:Nat} {pos:Pos} {env:Env} {b:Bool}:ES C A fs (eval (.Constant (.bool b) k pos) env) (fun os=>.ok (.bool b) os):=fun W os s H=>Sat.pure H (.bool b)
theorem es_int {k:Nat} {pos:Pos} {env:Env} {i:Int}:ES C A fs (eval (.Constant (.int i) k pos) env) (fun os=>.ok (.int i) os):=fun W os s H =>
  Sat.of rfl H fun Q E hP=>wpAny_Constant_int (hP _ _ (.int _ _) (fun _ _ e=>e) (.toks s _))
theorem es_str {k:Nat} {pos:Pos} {env:Env} {x:Str} (hx:x.cps.toList.length ≤ lim):ES C A fs (eval (.Constant (.str x) k pos) env) (fun os=>.ok (.str x.cps.toList) os):=fun W os s H =>
  Sat.of rfl H fun Q E hP=>Calls.Constant_str (hP (.str x _) _ (by
    have:x=strV x.cps.toList:=by cases x; rfl
    exact (congrArg (fun y=>VR W (V.str x.cps.toList) (.str y s.toks)) this).mpr (.str _ _ hx)) (fun _ _ e=>e) (.toks s _))
theorem es_bin {o:Op} {l r:Expr} {pos:Pos} {env:Env} {a b:List AO→R V} (ha:ES C A fs (eval l env) a) (hb:ES C A fs (eval r env) b) :
    ES C A fs (eval (.BinOp l (opO o) r pos) env) (fun os=>(a os).bind fun x os=>(b os).bind fun y os=>binOp os o x y):=by
  intro W os s H
  rw [arm_eval_BinOp]
  refine Sat.bind (ha W os s H) fun a os1 W1 x s1 le1 H1 q1=>?_
  refine Sat.bind (Sat.holding (hb W1 os1 s1 H1)) fun b os2 W2 y s2 le2 H2 q2=>?_
  refine Sat.standAt (Sat.operate ?_)
  exact sat_bin (q1.mono le2) q2 H2 false (fun e=>nomatch e)
theorem markedOff {o:CmpOp} {e:Expr} {t:Sem Value} (h:behindInMarks o e=false):markedBehindIn o e t=t:=by unfold markedBehindIn; rw [h]
theorem es_cmp {o:Cm} {l r:Expr} {pos:Pos} {env:Env} {a b:List AO→R V} (hu:A.units+2 < cLine) (hm:behindInMarks (cmO o) r=false) (ha:ES C A fs (eval l env) a) (hb:ES C A fs (eval r env) b) :
    ES C A fs (eval (.Compare l [cmO o] [r] pos) env) (fun os=>(a os).bind fun x os=>(b os).bind fun y os=>cmpOp os o x y):=by
  intro W os s H
  rw [arm_eval_Compare]
  refine Sat.bind (ha W os s H) fun a os1 W1 x s1 le1 H1 q1=>?_
  show Sat C A (do let rv ← holding [x] (markedBehindIn (cmO o) r (eval r env)); standAt pos; PySem.operate [x,rv] (compareOp (cmO o) x rv)) _ _ _ _ _
  rw [markedOff hm]
  refine Sat.bind (Sat.holding (hb W1 os1 s1 H1)) fun b os2 W2 y s2 le2 H2 q2=>?_
  exact Sat.standAt (Sat.operate (sat_cmp (q1.mono le2) q2 H2 hu))
theorem cmp_bool {o:Cm} {x y:V} {os os':List AO} {v:V} (h:cmpOp os o x y=.ok v os'):∃ b,v=.bool b:=by
  unfold cmpOp retB at h
  cases e:cmpB os o x y with
  | none=>rw [e] at h; cases h
  | some b=>rw [e] at h; cases h; exact ⟨b,rfl⟩
theorem ts_cmp {o:Cm} {l r:Expr} {pos:Pos} {env:Env} {a b:List AO→R V} (hu:A.units+2 < cLine) (hm:behindInMarks (cmO o) r=false) (ha:ES C A fs (eval l env) a) (hb:ES C A fs (eval r env) b) :
    TS C A fs (isTrue (.Compare l [cmO o] [r] pos) env (eval (.Compare l [cmO o] [r] pos) env)) (fun os=>(a os).bind fun x os=>(b os).bind fun y os=>cmpOp os o x y):=by
  intro W os s H
  rw [arm_isTrue_Compare]
  refine Sat.bind (ha W os s H) fun a os1 W1 x s1 le1 H1 q1=>?_
  show Sat C A (do let rv ← holding [x] (markedBehindIn (cmO o) r (eval r env)); standAt pos; let c ← PySem.operate [x,rv] (compareOp (cmO o) x rv); holding [c] (truthy c)) _ _ _ _ _
  rw [markedOff hm]
  refine Sat.bind (Sat.holding (hb W1 os1 s1 H1)) fun b os2 W2 y s2 le2 H2 q2=>?_
  refine Sat.standAt ?_
  rw [← R.bind_ok (cmpOp os2 o a b)]
  have key:=sat_cmp (A:=A) (s:=s2) (o:=o) (q1.mono le2) q2 H2 hu
  intro hf
  have hr:cmpOp os2 o a b ≠ .fail:=by intro q; rw [q] at hf; exact hf rfl
  refine wpAny_bind (wpAny_mono (wpAny_operate' (key hr)) ?_ ?_)
  · rintro c s3 ⟨v,os3,W3,e,le3,H3,q3,sm⟩
    obtain ⟨b,rfl⟩:=cmp_bool e
    cases q3
    rw [e]
    exact wpAny_holding (wpAny_truthy_bool ⟨.bool b,os3,W3,rfl,le3,H3,rfl,sm⟩)
  · rintro c s3 ⟨m,os3,W3,e',e,rfl,le3,X,sm⟩
    rw [e]
    exact ⟨m,os3,W3,e',rfl,rfl,le3,X,sm⟩
theorem ts_not {e:Expr} {pos:Pos} {env:Env} {c:List AO→R V} (h:TS C A fs (isTrue e env (eval e env)) c) :
    TS C A fs (isTrue (.UnaryOp .Not e pos) env (eval (.UnaryOp .Not e pos) env)) (fun os=>(c os).bool fun b os=>.ok (.bool (!b)) os):=by
  intro W os s H
  rw [arm_isTrue_UnaryOp]
  refine Sat.bind (h W os s H) fun a os1 W1 x s1 le1 H1 q1=>?_
  cases q1
  exact Sat.pure H1 rfl
theorem es_not {e:Expr} {pos:Pos} {env:Env} {c:List AO→R V} (h:ES C A fs (eval e env) c) :
    ES C A fs (eval (.UnaryOp .Not e pos) env) (fun os=>(fin true (c os)).bool fun b os=>.ok (.bool (!b)) os):=by
  intro W os s H
  rw [arm_eval_UnaryOp]
  have e1:∀ r:R V,((fin true r).bool fun b os=>(.ok (.bool (!b)) os:R V))=r.bind fun v os=>(match truth os v with | some b=>(.ok (.bool b) os:R V) | none=>.fail).bind fun v os=>match v with | .bool b=>(.ok (.bool (!b)) os:R V) | _=>.fail:=by
    intro r; cases r<;>rfl
  refine Eq.mpr (congrArg (fun r=>Sat C A _ VR fs W r s) (e1 (c os))) ?_
  refine Sat.bind (h W os s H) fun a os1 W1 x s1 le1 H1 q1=>?_
  refine Sat.standAt (Sat.holding ?_)
  unfold unaryOp
  refine Sat.holding ?_
  show Sat C A (truthy x >>= fun b=>Pure.pure (Value.bool (!b))) _ _ _ _ _
  refine Sat.bind (sat_truth q1 H1) fun a os2 W2 y s2 le2 H2 q2=>?_
  cases q2
  exact Sat.pure H2 (.bool _)
theorem es_neg {e:Expr} {pos:Pos} {env:Env} {c:List AO→R V} (h:ES C A fs (eval e env) c) :
    ES C A fs (eval (.UnaryOp .USub e pos) env) (fun os=>(c os).bind fun v os=>match v with | .int i=>.ok (.int (-i)) os | _=>.fail):=by
  intro W os s H
  rw [arm_eval_UnaryOp]
  refine Sat.bind (h W os s H) fun a os1 W1 x s1 le1 H1 q1=>?_
  refine Sat.standAt (Sat.holding ?_)
  cases q1 with
  | int i t=>exact Sat.of rfl H1 fun Q E hP=>neg_int (hP _ _ (.int _ _) (fun _ _ e=>e) (.toks _ _))
  | _=>exact Sat.fail
theorem es_ife {c a b:Expr} {pos:Pos} {env:Env} {t x y:List AO→R V} (hc:TS C A fs (isTrue c env (eval c env)) t) (ha:ES C A fs (eval a env) x) (hb:ES C A fs (eval b env) y) :
    ES C A fs (eval (.IfExp c a b pos) env) (fun os=>(t os).bool fun t os=>if t then x os else y os):=by
  intro W os s H
  rw [arm_eval_IfExp]
  refine Sat.bind (hc W os s H) fun t os1 W1 b s1 le1 H1 q1=>?_
  cases q1
  cases b
  · exact hb W1 os1 s1 H1
  · exact ha W1 os1 s1 H1
theorem ts_ife {c a b:Expr} {pos:Pos} {env:Env} {t x y:List AO→R V} (hc:TS C A fs (isTrue c env (eval c env)) t) (ha:TS C A fs (isTrue a env (eval a env)) x) (hb:TS C A fs (isTrue b env (eval b env)) y) :
    TS C A fs (isTrue (.IfExp c a b pos) env (eval (.IfExp c a b pos) env)) (fun os=>(t os).bool fun t os=>if t then x os else y os):=by
  intro W os s H
  rw [arm_isTrue_IfExp]
  refine Sat.bind (hc W os s H) fun t os1 W1 b s1 le1 H1 q1=>?_
  cases q1
  cases b
  · exact hb W1 os1 s1 H1
  · exact ha W1 os1 s1 H1
end
end Mine
end
section
open PySem PySem.W PySem.Calls PyProof.Rows
set_option tactic.hygienic false
namespace Mine
section
variable {C:Cx} {A:Around} {fs:List FrD} {W:Wd} {os:List AO} {s:Shared} {d:Nat}
noncomputable def boolE (isAnd:Bool):List (List AO→R V)→List AO→R V
  | [],_=>.fail
  | [c],os=>c os
  | c :: cs,os=>(c os).bind fun v os=>match truth os v with
    | some b=>if b == isAnd then boolE isAnd cs os else .ok v os
    | none=>.fail
noncomputable def boolT (isAnd:Bool):List (List AO→R V)→List AO→R V
  | [],os=>.ok (.bool isAnd) os
  | c :: cs,os=>(c os).bool fun b os=>if b == isAnd then boolT isAnd cs os else .ok (.bool b) os
inductive All2 {α β:Type} (P:α→β→Prop):List α→List β→Prop
  | nil:All2 P [] []
  | cons {a:α} {b:β} {as:List α} {bs:List β}:P a b→All2 P as bs→All2 P (a :: as) (b :: bs)
theorem es_boolop {isAnd:Bool} {pos:Pos}:∀ {ts:List (Sem Value)} {cs:List (List AO→R V)},All2 (ES C A fs) ts cs→ES C A fs (boolOp pos (if isAnd then .And else .Or) ts) (boolE isAnd cs)
  | _,_,.nil=>fun W os s H=>Sat.fail
  | _,_,.cons h .nil=>fun W os s H=>h W os s H
  | _,_,.cons (a:=t) (b:=c) h (.cons (a:=t2) (b:=c2) (as:=ts) (bs:=cs) h2 h3)=>fun W os s H=>by
    have ih:=es_boolop (isAnd:=isAnd) (pos:=pos) (.cons h2 h3)
    show Sat C A (t >>= fun v=>standAt pos >>= fun _=>holding [v] (truthy v) >>= fun b=>match (if isAnd then BoolOp.And else BoolOp.Or),b with
      | .And,false | .Or,true=>Pure.pure v
      | _,_=>boolOp pos (if isAnd then .And else .Or) (t2 :: ts)) VR fs W ((c os).bind fun v os=>match truth os v with
        | some b=>if b == isAnd then boolE isAnd (c2 :: cs) os else .ok v os
        | none=>.fail) s
    refine Sat.bind (h W os s H) fun v os1 W1 x s1 le1 H1 q1=>?_
    refine Sat.standAt ?_
    cases e:truth os1 v with
    | none=>exact Sat.fail
    | some b =>
      intro hf
      refine wpAny_bind (wpAny_holding (sat_truthy q1 H1 e fun tk=>?_))
      have H1':HR C fs W1 os1 ({ s1 with toks:=tk }:Shared).heap:=H1
      have key:Sat C A (match (if isAnd then BoolOp.And else BoolOp.Or),b with
        | .And,false | .Or,true=>Pure.pure x
        | _,_=>boolOp pos (if isAnd then .And else .Or) (t2 :: ts)) VR fs W1 (if b == isAnd then boolE isAnd (c2 :: cs) os1 else .ok v os1) { s1 with toks:=tk }:=by
        cases isAnd<;>cases b
        · exact ih W1 os1 _ H1'
        · exact Sat.pure H1' q1
        · exact Sat.pure H1' q1
        · exact ih W1 os1 _ H1'
      exact wpAny_mono (key hf) (fun _ _ ⟨a,os,W',e,le,H,q,sm⟩=>⟨a,os,W',e,le,H,q,sm⟩) fun _ _ ⟨m,os,W',b,e,e',le,X,sm⟩=>⟨m,os,W',b,e,e',le,X,sm⟩
theorem ts_boolop {isAnd:Bool} {env:Env}:∀ {es:List Expr} {cs:List (List AO→R V)},All2 (fun e c=>TS C A fs (isTrue e env (eval e env)) c) es cs→TS C A fs (allTrue (if isAnd then .And else .Or) es env) (boolT isAnd cs)
  | _,_,.nil=>fun W os s H=>by
    rw [arm_allTrue_nil]
    exact Sat.pure H (by cases isAnd<;>rfl)
  | _,_,.cons (a:=e) (as:=es) h h2=>fun W os s H=>by
    have ih:=ts_boolop (isAnd:=isAnd) h2
    rw [arm_allTrue_cons]
    refine Sat.bind (h W os s H) fun v os1 W1 x s1 le1 H1 q1=>?_
    cases q1
    cases isAnd<;>cases x
    · exact ih W1 os1 _ H1
    · exact Sat.pure H1 rfl
    · exact Sat.pure H1 rfl
    · exact ih W1 os1 _ H1
theorem ls_nil:LS C A fs [] (fun os=>.ok [] os):=fun W os s H=>Sat.pure H .nil
theorem ls_cons {t:Sem Value} {ts:List (Bool × Sem Value)} {c:List AO→R V} {cs:List AO→R (List V)} (h:ES C A fs t c) (h2:LS C A fs ts cs) :
    LS C A fs ((false,t) :: ts) (fun os=>(c os).bind fun v os=>(cs os).bind fun vs os=>.ok (v :: vs) os):=by
  intro W os s H
  show Sat C A (t >>= fun v=>Pure.pure [v] >>= fun here=>holding here (spliced ts) >>= fun r=>Pure.pure (here++r)) _ _ _ _ _
  refine Sat.bind (h W os s H) fun v os1 W1 x s1 le1 H1 q1=>?_
  refine Sat.bindP ?_
  refine Sat.bind (Sat.holding (h2 W1 os1 s1 H1)) fun vs os2 W2 xs s2 le2 H2 q2=>?_
  exact Sat.pure H2 (.cons (q1.mono le2) q2)
theorem star_one {e:Expr} {es:List Expr} {env:Env} (h:isStar e=false):starEach (e :: es) env=(false,eval e env) :: starEach es env:=by
  cases e<;>first | rfl | cases h
theorem backTo_star {pos:Pos} {env:Env}:∀ {es:List Expr},anyStar es=false→backTo pos (starEach es env)=es.map fun e=>(false,eval e env)
  | [],_=>rfl
  | e :: es,h=>by
    simp only [anyStar,List.any_cons,Bool.or_eq_false_iff] at h
    have ih:=backTo_star (pos:=pos) (env:=env) (es:=es) h.2
    rw [star_one h.1]
    show (false,if false then _ else eval e env) :: backTo pos (starEach es env)=_
    rw [ih]
    rfl
set_option tactic.hygienic true in
theorem es_list {es:List Expr} {pos:Pos} {env:Env} {cs:List AO→R (List V)} (hs:anyStar es=false) (h:LS C A fs (es.map fun e=>(false,eval e env)) cs) :
    ES C A fs (eval (.List es pos) env) (fun os=>(cs os).bind fun vs os=>if vs.length ≤ lim then .ok (.obj os.length) (os++[.list vs]) else .fail):=by
  intro W os s H
  rw [arm_eval_List,backTo_star hs]
  refine Sat.standAt ?_
  refine Sat.bind (h W os s H) fun vs os1 W1 xs s1 le1 H1 q1=>?_
  split
  · rename_i hz
    refine Sat.made H1 (.list _ _ 0 (q1.mono (leN _ _)) hz) fun Q E hQ=>?_
    refine wpAny_newObj_type (hQ _) ?_
    show xs.toArray.size ≤ sizeLine
    rw [List.size_toArray,q1.length,← lim_line]; exact hz
  · exact Sat.fail
set_option tactic.hygienic true in
theorem es_tup {es:List Expr} {k:Nat} {pos:Pos} {env:Env} {cs:List AO→R (List V)} (hs:anyStar es=false) (h:LS C A fs (es.map fun e=>(false,eval e env)) cs) :
    ES C A fs (eval (.Tuple es k pos) env) (fun os=>(cs os).bind fun vs os=>if vs.length ≤ lim then .ok (.tup vs) os else .fail):=by
  intro W os s H
  rw [arm_eval_Tuple,backTo_star hs]
  refine Sat.standAt ?_
  refine Sat.bind (h W os s H) fun vs os1 W1 xs s1 le1 H1 q1=>?_
  split
  · rename_i hz
    refine Sat.madeK H1 rfl (.tup _ _ _ 0 (.head _) (q1.mono (leK _ _)) hz) fun Q E hQ=>?_
    exact wpAny_newTuple (hQ _) (by rw [q1.length,← lim_line]; exact hz)
  · exact Sat.fail
end
end Mine
end
section
open PySem PySem.W PySem.Calls PyProof.Rows
set_option backward.match.sparseCases false
set_option tactic.hygienic false
namespace Mine
structure CxOk (C:Cx):Prop where
  kin:C.K.In C.h₀
  g:C.h₀.Ns mainGlobals C.mg
  b:C.h₀.Ns builtinsNs C.mb
  sm:∃ o,C.h₀.get? sysModules=some o
theorem idx_succ {n i:Nat} (h:n+1 ≤ i):i - n=(i - (n+1))+1:=(Nat.succ_pred_eq_of_pos (Nat.sub_pos_of_lt h)).symm
theorem slotOf_spec (x:Str) (ns:Names):∀ (n i:Nat) (k:NameKind),slotOf x ns n=some (i,k)→n ≤ i∧ns[i - n]?=some (x,k)∧ns.lookup x=some k:=by
  induction ns with
  | nil=>exact fun _ _ _ e=>noSome e
  | cons p r ih =>
    obtain ⟨y,k'⟩:=p
    intro n i k e
    have e:(if (x == y)=true then some (n,k') else slotOf x r (n+1))=some (i,k):=e
    rw [List.lookup_cons]
    cases h:x == y with
    | true =>
      rw [h,if_pos rfl] at e
      have e:=Prod.mk.inj (Option.some.inj e)
      rw [← e.1,← e.2,Nat.sub_self,eq_of_beq h]
      exact ⟨Nat.le_refl _,rfl,rfl⟩
    | false =>
      rw [h,if_neg Bool.false_ne_true] at e
      obtain ⟨a,b,c⟩:=ih _ _ _ e
      rw [idx_succ a]
      exact ⟨Nat.le_of_succ_le a,b,c⟩
section
variable {C:Cx} {A:Around} {fs:List FrD} {W:Wd} {os:List AO} {s:Shared} {d:Nat}
theorem HR.kin (X:CxOk C) (H:HR C fs W os s.heap):C.K.In s.heap:=X.kin.keeps H.base
theorem HR.ns (X:CxOk C) (H:HR C fs W os s.heap):s.heap.Ns mainGlobals C.mg:=X.g.keeps H.base
theorem HR.bs (X:CxOk C) (H:HR C fs W os s.heap):s.heap.Ns builtinsNs C.mb:=X.b.keeps H.base
noncomputable def KeepOk (C:Cx) (f:Value):Prop:=∀ h,C.K.In h→∃ k,(k=Keeper.frame ∨ k=Keeper.machine ∨ k=Keeper.boundFrame)∧Looks (model C.prog C.w) h (keeperOf f) k
theorem keepOk_builtin {id:String}:KeepOk C (.builtin id):=fun h X=>⟨.machine,.inr (.inl rfl),fun A Q E s k q=>wpAny_pure q⟩
theorem keepOk_type {id:String}:KeepOk C (.type id):=fun h X=>⟨.machine,.inr (.inl rfl),fun A Q E s k q=>wpAny_pure q⟩
theorem keepOk_in {f:Value} (h:keepIn C.K f=true):KeepOk C f:=fun hp X=>keeps_K h hp X
theorem evalArgs_map {es:List Expr} {env:Env} {f:Value}:evalArgs f true (es.map fun e=>(false,eval e env)) []=(do
    let pos ← spliced (es.map fun e=>(false,eval e env))
    holding pos (do let kw ← evalAll []; let p ← Pure.pure pos; Pure.pure ⟨p,[]⟩)):=by
  have key:evalArgs f true (es.map fun e=>(false,eval e env)) []=(spliced (es.map fun e=>(false,eval e env)) >>= fun pos=>holding (pos++[]) (do let kw ← evalAll []; let p ← Pure.pure pos; Pure.pure (⟨p,[]⟩:Args))):=by
    cases es with
    | nil=>rfl
    | cons a r=>cases r with
      | nil=>rfl
      | cons b r=>rfl
  rw [key]
  simp only [List.append_nil]
theorem attrBase {o:Expr} {name:Str} {env:Env} {m:Sem Value} (hb:bareCall o=false):attributeBase o name env m=m:=by
  cases o with
  | Call f as ks p =>
    cases f with
    | Name x q =>
      cases as with
      | nil=>cases ks with
        | nil=>exact nomatch hb
        | cons _ _=>rfl
      | cons _ _=>rfl
    | _=>rfl
  | _=>rfl
theorem methForm {es:List Expr} {env:Env} {pos:Pos} (hn:es.length ≤ 20):methodCallForm (es.length+([]:List Keyword).length) (es.map fun e=>(false,eval e env)) (backToKw pos (keywordEach [] env))=true:=by
  show (((es.map fun e=>(false,eval e env)).all (!·.1)&&true)&&decide (es.length+0+0 < 30))=true
  have h:((es.map fun e=>(false,eval e env)).all fun x=>!x.1)=true:=by
    rw [List.all_map]
    exact List.all_eq_true.mpr fun _ _=>rfl
  rw [h,decide_eq_true (show es.length+0+0 < 30 from Nat.lt_of_le_of_lt hn (by decide))]
  rfl
theorem sat_callWithP {P:Heap→Prop} {pos:Pos} {f:Value} {first:List Value} {es:List Expr} {env:Env} {cs:List AO→R (List V)} {g:List V→List AO→R V}
    (hk:∀ h,P h→∃ k,(k=Keeper.frame ∨ k=Keeper.machine ∨ k=Keeper.boundFrame)∧Looks (model C.prog C.w) h (keeperOf f) k) (hP:∀ (W':Wd) (os':List AO) (s':Shared),W.le W'→HR C fs W' os' s'.heap→P s'.heap)
    (h:LS C A fs (es.map fun e=>(false,eval e env)) cs)
    (H:HR C fs W os s.heap) (h2:∀ W' vs xs os' s',W.le W'→VRs W' vs xs→HR C fs W' os' s'.heap→Sat C A (call f (first++xs)) VR fs W' (g vs os') s') :
    Sat C A (callWith pos f first (es.map fun e=>(false,eval e env)) []) VR fs W ((cs os).bind g) s:=by
  intro hf
  refine callWith_of (P:=P) (by simp) hk ?_
  rw [evalArgs_map]
  refine wpAny_bind (wpAny_mono (Sat.andThen (Z:=fun s'=>P s'.heap) (h W os s H) (fun vs os' W' xs s' le H' q=>⟨hP _ _ _ le H',h2 W' vs xs os' s' le q H'⟩) hf) (fun xs s' h=>wpAny_holding ?_) fun _ _ h=>h)
  show wpAny _ _ (evalAll [] >>= fun _=>Pure.pure xs >>= fun p=>Pure.pure (⟨p,[]⟩:Args)) _ _ _
  exact wpAny_bind (m:=evalAll []) (wpAny_pure (wpAny_bind (wpAny_pure (wpAny_pure h))))
theorem sat_callWith (X:CxOk C) {pos:Pos} {f:Value} {first:List Value} {es:List Expr} {env:Env} {cs:List AO→R (List V)} {g:List V→List AO→R V} (hk:KeepOk C f) (h:LS C A fs (es.map fun e=>(false,eval e env)) cs)
    (H:HR C fs W os s.heap) (h2:∀ W' vs xs os' s',W.le W'→VRs W' vs xs→HR C fs W' os' s'.heap→Sat C A (call f (first++xs)) VR fs W' (g vs os') s') :
    Sat C A (callWith pos f first (es.map fun e=>(false,eval e env)) []) VR fs W ((cs os).bind g) s:=sat_callWithP (P:=C.K.In) hk (fun _ _ _ _ H'=>H'.kin X) h H h2
theorem okName_of {x:Str} (h:okName x=true):(x == ("__debug__":Str))=false∧(x == ("__classdict__":Str))=false:=by
  obtain ⟨a,b⟩:=and_of h
  exact ⟨beq_eq_false_iff_ne.mpr (bne_iff_ne.mp a),beq_eq_false_iff_ne.mpr (bne_iff_ne.mp b)⟩
theorem sat_load {f:FrD} (hm:f ∈ fs) {x:Str} {i:Nat} {k:NameKind} (hx:slotOf x f.env.scope.names 0=some (i,k)) (ho:okName x=true) (H:HR C fs W os s.heap) :
    Sat C A (loadName f.env x) VR fs W (getLoc f.loc os i) s:=by
  obtain ⟨_,e1,e2⟩:=slotOf_spec x _ _ _ _ hx
  rw [Nat.sub_zero] at e1
  obtain ⟨m,hn,hlr⟩:=(H.frames f hm).ns
  have kf:=(H.frames f hm).kind
  refine Sat.opt fun lv ev=>?_
  have hv:=hlr i x k _ e1 ev
  cases lv with
  | un=>exact Sat.fail
  | val v =>
    obtain ⟨rfl,y,hy,r⟩:=hv
    exact Sat.ofV H r fun Q E hP=>wpAny_loadName_local kf e2 hn hy (hP s.toks)
  | cel j =>
    obtain ⟨hk,a,ha,hj⟩:=hv
    refine Sat.opt fun v ej=>?_
    obtain ⟨o,eo,ej⟩:=bindSome ej
    obtain ⟨w,ew,rfl⟩:=bindSome ej
    cases AO.cell_of ew
    obtain ⟨ob,g,r⟩:=H.objs _ _ _ eo hj
    cases r with
    | cell _ _ y q hd' =>
      obtain ⟨y,rfl,r⟩:=q v rfl
      cases hk with
      | inl h=>cases h; exact Sat.ofV H r fun Q E hP=>wpAny_loadName_cell kf e2 ha ⟨_,g,hd'⟩ (hP s.toks)
      | inr h=>cases h; exact Sat.ofV H r fun Q E hP=>wpAny_loadName_free kf e2 ha ⟨_,g,hd'⟩ (hP s.toks) (okName_of ho).2
theorem es_loc {f:FrD} (hm:f ∈ fs) {x:Str} {i:Nat} {k:NameKind} {pos:Pos} (hx:slotOf x f.env.scope.names 0=some (i,k)) (hl:isLocal k=true) (ho:okName x=true) :
    ES C A fs (eval (.Name x pos) f.env) (fun os=>getLoc f.loc os i):=fun W os s H hf=>wpAny_Name (sat_load hm hx ho H hf) (okName_of ho).1
set_option tactic.hygienic true in
theorem glob_spec {x:Str} {ns:Names} (h:glob ns x=true):ns.lookup x=some .globalImplicit:=by
  unfold glob at h
  split at h
  · rename_i i e; exact (slotOf_spec x _ _ _ _ e).2.2
  · cases h
theorem wp_global (X:CxOk C) (H:HR C fs W os s.heap) {f:FrD} (hm:f ∈ fs) {x:Str} {pos:Pos} (hg:glob f.env.scope.names x=true) (ho:okName x=true) {v:Value} {Q:Value→Shared→Prop} {E:Value→Shared→Prop}
    (hv:C.mg x=some v ∨ C.mg x=none∧C.mb x=some v) (h:Q v s):wpAny (model C.prog C.w) A (eval (.Name x pos) f.env) Q E s:=by
  have hd:=(okName_of ho).1
  have F:=H.frames f hm
  refine Calls.Name_function_global F.kind (glob_spec hg) ?_ hd
  rcases hv with hv | ⟨h1,h2⟩
  · exact Calls.loadGlobal_global (by rw [F.glob]; exact H.ns X) hv h
  · exact Calls.loadGlobal_builtin (by rw [F.glob]; exact H.ns X) h1 (by rw [F.bns]; exact H.bs X) h2 h
theorem es_typ (X:CxOk C) {f:FrD} (hm:f ∈ fs) {x:Str} {pos:Pos} {t:Nat} (hg:glob f.env.scope.names x=true) (ho:okName x=true) (hv:C.mg x=none∧C.mb x=some (.type (typName t))) :
    ES C A fs (eval (.Name x pos) f.env) (fun os=>.ok (.typ t) os):=fun W os s H =>
  Sat.of rfl H fun Q E hP=>wp_global X H hm hg ho (.inr hv) (hP _ _ (.typ t) (fun _ _ e=>e) (.refl s))
theorem es_call (X:CxOk C) {f:FrD} (hm:f ∈ fs) {x:Str} {p pos:Pos} {v:Value} {es:List Expr} {cs:List AO→R (List V)} {g:List V→List AO→R V} (hs:anyStar es=false) (hg:glob f.env.scope.names x=true) (ho:okName x=true)
    (hv:C.mg x=some v ∨ C.mg x=none∧C.mb x=some v) (hk:KeepOk C v) (h:LS C A fs (es.map fun e=>(false,eval e f.env)) cs)
    (h2:∀ W vs xs os s,VRs W vs xs→HR C fs W os s.heap→Sat C A (call v xs) VR fs W (g vs os) s) :
    ES C A fs (eval (.Call (.Name x p) es [] pos) f.env) (fun os=>(cs os).bind g):=by
  intro W os s H
  rw [arm_eval_Call_Name',backTo_star hs]
  intro hf
  refine wpAny_bind (wp_global X H hm hg ho hv ?_)
  exact sat_callWith X hk h H (fun W' vs xs os' s' _ r H'=>h2 W' vs xs os' s' r H') hf
theorem es_meth (X:CxOk C) {f:FrD} {o:Expr} {name:Str} {apos pos:Pos} {es:List Expr} {c:List AO→R V} {cs:List AO→R (List V)} {G:V→List AO→R V} (hs:anyStar es=false) (hb:bareCall o=false) (hn:es.length ≤ 20) (hp:(apos.endLine == pos.line)=true)
    (ho:ES C A fs (eval o f.env) c) (h:LS C A fs (es.map fun e=>(false,eval e f.env)) cs)
    (h2:∀ W v x os s,VR W v x→HR C fs W os s.heap→G v os ≠ .fail→∃ (g:List V→List AO→R V) (fv:Value) (first:List Value),G v os=(cs os).bind g∧KeepOk C fv ∧
      (∀ (pl:Sem Bool) (P:Value × List Value→Shared→Prop) (E:Value→Shared→Prop),(∀ tk,P (fv,first) { s with toks:=tk })→wpAny (model C.prog C.w) A (getMethod x name pl) P E s) ∧
      ∀ W' vs xs os' s',W.le W'→VRs W' vs xs→HR C fs W' os' s'.heap→Sat C A (call fv (first++xs)) VR fs W' (g vs os') s') :
    ES C A fs (eval (.Call (.Attribute o name apos) es [] pos) f.env) (fun os=>(c os).bind G):=by
  intro W os s H
  rw [arm_eval_Call,backTo_star hs]
  rw [attrBase hb]
  refine Sat.bind (ho W os s H) fun v os1 W1 x s1 le1 H1 q1=>?_
  refine Sat.standAt ?_
  intro hf
  obtain ⟨g,fv,first,eG,hk,hget,hcall⟩:=h2 W1 v x os1 s1 q1 H1 hf
  rw [eG] at hf ⊢
  unfold methodCall
  rw [methForm hn]
  refine wpAny_bind (wpAny_holding ?_)
  unfold calleeOf
  simp only [if_true]
  refine hget _ _ _ fun tk=>?_
  dsimp only
  have H1':HR C fs W1 os1 ({ s1 with toks:=tk }:Shared).heap:=H1
  have tail:∀ p:Pos,wpAny (model C.prog C.w) A (callWith p fv first (es.map fun e=>(false,eval e f.env)) []) (PR C VR fs W1 s1 ((cs os1).bind g)) (PX C fs W1 s1 ((cs os1).bind g)) { s1 with toks:=tk } :=
    fun p=>wpAny_mono (sat_callWith X hk h H1' hcall hf) (fun _ _=>PR.from (.refl W1) ⟨rfl,rfl,rfl⟩) fun _ _=>PX.from (.refl W1) ⟨rfl,rfl,rfl⟩
  unfold methodCallPos
  rw [hp]
  exact wpAny_bind (wpAny_pure (tail _))
end
section
variable {C:Cx} {A:Around} {fs:List FrD} {W:Wd} {os:List AO} {s:Shared} {d:Nat}
theorem es_idx {a i:Expr} {pos:Pos} {env:Env} {ca ci:List AO→R V} (hi:∀ l u p,i ≠ .Slice l u none p) (ha:ES C A fs (eval a env) ca) (hc:ES C A fs (eval i env) ci) :
    ES C A fs (eval (.Subscript a i pos) env) (fun os=>(ca os).bind fun x os=>(ci os).bind fun y os=>idxOp os x y):=by
  intro W os s H
  rw [arm_eval_Subscript]
  refine Sat.bind (ha W os s H) fun v os1 W1 x s1 le1 H1 q1=>?_
  refine Sat.bind (Sat.holding (hc W1 os1 s1 H1)) fun w os2 W2 y s2 le2 H2 q2=>?_
  refine Sat.standAt ?_
  obtain ⟨k1,k2⟩:=sat_getItem (C:=C) (A:=A) (q1.mono le2) q2 H2
  intro hf
  obtain ⟨T,id,hT,hl⟩:=k2 hf
  have hs:subscripted i false x y=operate [x,y] (getItem x y):=by
    cases i with
    | Slice l u st p =>
      cases st with
      | none=>exact absurd rfl (hi l u p)
      | some st=>rfl
    | _=>rfl
  exact sat_tail hT hl hs k1 hf
noncomputable abbrev slcOf (y z:Value):Obj:={ cls:=.type "slice",data:=.fields #[y,z,.none] }
noncomputable def SL (W:Wd) (v:V × V) (x:Value):Prop:=∃ b y z,x=.ref b∧(b,slcOf y z) ∈ W.kp∧VR W v.1 y∧VR W v.2 z
theorem es_slice {a:Expr} {lo hi:Option Expr} {p pos:Pos} {env:Env} {ca cl ch:List AO→R V} (ha:ES C A fs (eval a env) ca) (hl:ES C A fs (valueOrNone (evalOpt lo env)) cl) (hh:ES C A fs (valueOrNone (evalOpt hi env)) ch) :
    ES C A fs (eval (.Subscript a (.Slice lo hi none p) pos) env) (fun os=>(ca os).bind fun x os=>(cl os).bind fun y os=>(ch os).bind fun z os=>sliceOp os x y z):=by
  intro W os s H
  rw [arm_eval_Subscript]
  refine Sat.bind (ha W os s H) fun v os1 W1 x s1 le1 H1 q1=>?_
  have key:Sat C A (eval (.Slice lo hi none p) env) SL fs W1 ((cl os1).bind fun y os=>(ch os).bind fun z os=>.ok (y,z) os) s1:=by
    rw [arm_eval_Slice]
    refine Sat.bind (hl W1 os1 s1 H1) fun vl os2 W2 y s2 le2 H2 q2=>?_
    refine Sat.bind (Sat.holding (hh W2 os2 s2 H2)) fun vh os3 W3 z s3 le3 H3 q3=>?_
    intro hf
    refine wpAny_bind (wpAny_holding ?_)
    show wpAny _ _ (Pure.pure Value.none) _ _ _
    refine wpAny_pure ?_
    unfold newFields
    refine wpAny_newObj_type ?_ (by show (#[y,z,Value.none]:Array Value).size ≤ _; simp [sizeLine])
    exact ⟨(vl,vh),os3,_,rfl,leK W3 _,H3.keep _ rfl,⟨_,y,z,rfl,.head _,(q2.mono le3).mono (leK _ _),q3.mono (leK _ _)⟩,⟨rfl,rfl,rfl⟩⟩
  have e:(fun os=>((cl os).bind fun y os=>(ch os).bind fun z os=>sliceOp os v y z:R V)) os1=((cl os1).bind fun y os=>(ch os).bind fun z os=>(.ok (y,z) os:R (V × V))).bind fun yz os=>sliceOp os v yz.1 yz.2:=by
    show (cl os1).bind _=_
    cases cl os1 with
    | ok y os=>show (ch os).bind _=((ch os).bind _).bind _; cases ch os<;>rfl
    | exc m os=>rfl
    | fail=>rfl
  refine Eq.mpr (congrArg (fun r=>Sat C A _ VR fs W1 r s1) e) ?_
  refine Sat.bind (Sat.holding key) fun yz os2 W2 i s2 le2 H2 q2=>?_
  obtain ⟨b,y,z,rfl,hb,qy,qz⟩:=q2
  refine Sat.standAt ?_
  exact sat_slice (value:=a) (q1.mono le2) qy qz H2 ⟨_,H2.kept _ hb,rfl,rfl⟩
theorem es_opt_none {env:Env}:ES C A fs (valueOrNone (evalOpt none env)) (fun os=>.ok .none os):=fun W os s H=>Sat.pure H .none
theorem es_opt_some {env:Env} {e:Expr} {c:List AO→R V} (h:ES C A fs (eval e env) c):ES C A fs (valueOrNone (evalOpt (some e) env)) c:=h
end
theorem isStrOf_eq (x:Str) (v:Value):Value.isStrOf x v=v.isStr x:=by cases v<;>rfl
section
variable {prog:Program} {w:World}
theorem Pairs.noRef {es:List DictEntry} {kvs:List (Str × Value)} (h:Pairs (strKind prog w) es kvs):es.any (·.refKey)=false:=by
  induction h with
  | nil=>rfl
  | @cons e kv es kvs h1 _ _ ih =>
    rw [List.any_cons,ih,Bool.or_false]
    obtain ⟨t,ht⟩:=Value.isStrOf_shape h1
    unfold DictEntry.refKey
    rw [ht]
theorem DObj.look {o:Obj} {kvs:List (Str × Value)} (x:DObj (strKind prog w) o kvs) (name:Str):lookIn name o=some (valueAt kvs name):=by
  obtain ⟨es,ep,q1,q2,q3,q4,q5⟩:=x
  unfold lookIn
  rw [q2]
  dsimp only
  have h:=q4.find name
  have e:(es.toList.find? fun e=>(strKind prog w).is name e.key)=es.toList.find? (·.key.isStr name):=by
    congr 1; funext e; exact isStrOf_eq name e.key
  rw [e] at h
  cases hf:es.toList.find? (·.key.isStr name) with
  | some en=>rw [hf] at h; rw [← h]; rfl
  | none=>rw [hf] at h; rw [← h,Pairs.noRef q4]; rfl
theorem DObj.put {o:Obj} {kvs:List (Str × Value)} (x:DObj (strKind prog w) o kvs) (name:Str) (t:Tok) (v:Value) :
    DObj (strKind prog w) (Obj.putName name (PyData.keyHash w.params name) (.str name t) v o) (stored kvs name v):=by
  obtain ⟨es,ep,q1,q2,q3,q4,q5⟩:=x
  obtain ⟨c,dt,dd,sl⟩:=o
  obtain ⟨q1a,q1b,q1c⟩:=q1
  dsimp only at q1a q1b q1c q2
  subst q1a q1b q1c q2
  have e:(es.findIdx? fun e=>(strKind prog w).is name e.key)=es.findIdx? (·.key.isStr name):=by
    congr 1; funext e; exact isStrOf_eq name e.key
  have el:(es.toList.findIdx? fun e=>(strKind prog w).is name e.key)=es.findIdx? (·.key.isStr name):=by rw [← e]; obtain ⟨l⟩:=es; simp
  have hidx:(es.findIdx? (·.key.isStr name))=kvs.findIdx? fun kv=>decide (kv.1=name):=by rw [← q4.findIdx name,el]
  have hkey:(strKind prog w).is name (.str name t)=true:=strKind_is prog w _ _
  cases hi:es.findIdx? (·.key.isStr name) with
  | some i =>
    refine ⟨es.modify i (fun e=>{ e with val:=v }),ep,by simp only [Obj.putName_eq,Obj.putNameByArray,hi]; exact ⟨rfl,rfl,rfl⟩,by simp only [Obj.putName_eq,Obj.putNameByArray,hi],q3.modify _ _,?_,?_⟩
    · rw [stored,if_pos (any_of_findIdx_some (hidx ▸ hi))]
      have:=q4.modify q5 (el.trans hi) v
      obtain ⟨l⟩:=es
      simpa using this
    · rw [stored,if_pos (any_of_findIdx_some (hidx ▸ hi)),keys_map_store]; exact q5
  | none =>
    have hnot:name ∉ kvs.map (·.1):=not_mem_of_findIdx_none (hidx ▸ hi)
    have hany:¬ (kvs.any fun kv=>decide (kv.1=name))=true:=by
      rw [List.any_eq_true]; rintro ⟨kv,hkv,he⟩
      exact hnot (List.mem_map.mpr ⟨kv,hkv,of_decide_eq_true he⟩)
    refine ⟨es.push ⟨PyData.keyHash w.params name,.str name t,v⟩,ep+1,by simp only [Obj.putName_eq,Obj.putNameByArray,hi]; exact ⟨rfl,rfl,rfl⟩,by simp only [Obj.putName_eq,Obj.putNameByArray,hi],q3.push hkey _,?_,?_⟩
    · rw [stored,if_neg hany]
      have:=q4.append hkey (PyData.keyHash w.params name) v
      obtain ⟨l⟩:=es
      simpa using this
    · rw [stored,if_neg hany,List.map_append,List.nodup_append]
      refine ⟨q5,by simp,?_⟩
      intro a ha b hb
      simp only [List.map_cons,List.map_nil,List.mem_singleton] at hb
      subst hb
      exact fun e=>hnot (e ▸ ha)
end
section
variable {C:Cx} {A:Around} {fs:List FrD} {W:Wd} {os:List AO} {s:Shared} {d:Nat}
theorem nm_inj (hn:C.nm.Nodup) {a b:Nat} {x:Str} (h1:C.nm[a]?=some x) (h2:C.nm[b]?=some x):a=b:=by
  obtain ⟨p1,e1⟩:=List.getElem?_eq_some_iff.mp h1
  obtain ⟨p2,e2⟩:=List.getElem?_eq_some_iff.mp h2
  exact (List.getElem_inj hn).mp (e1.trans e2.symm)
theorem ER.find (hn:C.nm.Nodup) {l:List (Nat × V)} {es:List (Str × Value)} (r:ER C W l es) {a:Nat} {x:Str} (hx:C.nm[a]?=some x) :
    (∀ v,lookN a l=some v→∃ y,valueAt es x=some y∧VR W v y)∧(lookN a l=none→valueAt es x=none):=by
  induction r with
  | nil=>exact ⟨fun v e=>(nomatch e),fun _=>rfl⟩
  | @cons b w l es y z hb hw _ ih =>
    unfold lookN valueAt
    rw [List.find?_cons]
    by_cases h:a=b
    · subst h
      rw [hx] at hb; cases hb
      simp
      exact hw
    · have h1:(a == b)=false:=by simpa using h
      have h2:¬ (y=x):=fun e=>h (nm_inj hn hx (e ▸ hb))
      simp only [h1,h2,decide_false]
      unfold valueAt at ih
      simpa using ih
set_option tactic.hygienic true in
theorem ER.put (hn:C.nm.Nodup) {l:List (Nat × V)} {es:List (Str × Value)} (r:ER C W l es) (hk:(es.map (·.1)).Nodup) {a:Nat} {x:Str} {v:V} {y:Value} (hx:C.nm[a]?=some x) (hv:VR W v y) :
    ER C W (putN a v l) (stored es x y):=by
  have key:∀ {l:List (Nat × V)} {es:List (Str × Value)},ER C W l es→(es.map (·.1)).Nodup→ER C W (putN a v l) (if es.any (fun kv=>kv.1=x) then es.map (fun kv=>if kv.1=x then (kv.1,y) else kv) else es++[(x,y)]):=by
    intro l es r
    induction r with
    | nil=>intro _; exact .cons hx hv .nil
    | @cons b w l es y' z hb hw hr ih =>
      intro hk
      unfold putN
      simp only [List.map_cons,List.nodup_cons] at hk
      by_cases h:a=b
      · subst h
        rw [hx] at hb; cases hb
        have h1:(es.map fun kv=>if kv.1=x then (kv.1,y) else kv)=es:=by
          refine (List.map_congr_left fun kv hkv=>?_).trans (List.map_id _)
          have:kv.1 ≠ x:=fun e=>hk.1 (e ▸ List.mem_map_of_mem hkv)
          simp [this]
        simp [h1]
        exact .cons hx hv hr
      · have h1:(a == b)=false:=by simpa using h
        have h2:¬ (y'=x):=fun e=>h (nm_inj hn hx (e ▸ hb))
        have:=ih hk.2
        simp only [h1,List.any_cons,h2,decide_false,Bool.false_or,List.map_cons,if_false,List.cons_append,Bool.false_eq_true]
        split
        · rename_i hq; rw [if_pos hq] at this; exact .cons hb hw this
        · rename_i hq; rw [if_neg hq] at this; exact .cons hb hw this
  exact key r hk
end
structure BOk (A:Around) (d:Nat):Prop where
  depth:A.depth+3 * d ≤ 799
  units:A.units+40 * d ≤ 8990
theorem BOk.a {A:Around} {d:Nat} (h:BOk A d):AOk A d:=⟨by have:=h.depth; omega,by have:=h.units; omega⟩
theorem BOk.a1 {A:Around} {d:Nat} (h:BOk A d):AOk A.in1 d:=⟨by have:=h.depth; show A.depth+3 * d ≤ 800; omega,by have:=h.units; show A.units+1+40 * d ≤ 9000; omega⟩
theorem BOk.lt {A:Around} {d:Nat} (h:BOk A d):A.units+100 < cLine:=by have:=h.units; unfold cLine; omega
noncomputable def RX (C:Cx) (fs:List FrD) (W:Wd) (s:Shared) (r:R V):Result→Shared→Prop:=fun x s'=>match x with
  | .ok (.ret v)=>PR C VR fs W s r v s'
  | .ok _=>False
  | .error e=>PX C fs W s r e s'
structure Fns where
  fv:Nat→Option Addr
  fd:Nat→Option FuncData
  pn:Nat→List Str
noncomputable def FnSat (C:Cx) (T:Tab) (cf:Nat→List V→List AO→R V) (F:Fns) (d:Nat):Prop :=
  ∀ (g:Nat) (fn:Fn) (fa:Addr) (fd:FuncData),T.fns g=some fn→F.fv g=some fa→F.fd g=some fd→∀ (A:Around) (fs:List FrD) (W:Wd) (os:List AO) (s:Shared) (vs:List V) (args:Args),AOk A d→(A.handled=none ∨ T.hd=true)→A.frames=some (reals fs) →
    HR C fs W os s.heap→(∀ ws,bindArgs fn vs=some ws→∃ ys,VRs W ws ys∧BindsTo s fd args ((F.pn g).zip ys))→cf g vs os ≠ .fail→codeAny (model C.prog C.w) A (.call (.ref fa) args) (RX C fs W s (cf g vs os)) s
structure TabOk (C:Cx) (T:Tab) (F:Fns):Prop where
  nd:C.nm.Nodup
  fv:∀ g fn,T.fns g=some fn→∃ fa fd,F.fv g=some fa∧F.fd g=some fd∧keepIn C.K (.ref fa)=true
  bind:∀ g fn fd,T.fns g=some fn→F.fd g=some fd→∀ W vs xs s ws,C.K.In s.heap→VRs W vs xs→bindArgs fn vs=some ws→∃ ys,VRs W ws ys∧BindsTo s fd ⟨xs,[]⟩ ((F.pn g).zip ys)
  own:∀ c Ca a x,C.cls c=some Ca→C.nm[a]?=some x→T.prop c a=none→T.meth c a=none →
    plainGet C.K Ca x=true∧hasDictIn C.K Ca=true∧(∃ attr,findIn C.K (.ref Ca) x=some attr∧noGet C.K attr=true) ∧
    findIn C.K (.ref Ca) "__setattr__"=some (some (.builtin "object.__setattr__"))∧plainOver C.K Ca=true∧takerIn C.K Ca x=some none
  meth:∀ c Ca a x g,C.cls c=some Ca→C.nm[a]?=some x→T.meth c a=some g→(T.fns g).isSome=true∧∃ fa,F.fv g=some fa∧plainGet C.K Ca x=true∧findIn C.K (.ref Ca) x=some (some (.ref fa))∧typeIn C.K (.ref fa)=some (.type "function")
  prop:∀ c Ca a x g,C.cls c=some Ca→C.nm[a]?=some x→T.prop c a=some g→(T.fns g).isSome=true∧∃ p fa rest,F.fv g=some fa∧plainGet C.K Ca x=true∧hasDictIn C.K Ca=true∧findIn C.K (.ref Ca) x=some (some (.ref p)) ∧
    specialIn C.K (.ref p) "__get__"=some (some (.builtin "property.__get__"))∧takesIn C.K (.ref p)=some true∧recIn C.K p "property"=some (.ref fa :: rest)
section
variable {C:Cx} {T:Tab} {F:Fns} {cf:Nat→List V→List AO→R V} {A:Around} {fs:List FrD} {W:Wd} {os:List AO} {s:Shared} {d:Nat}
theorem FnSat.call (X:CxOk C) (hT:TabOk C T F) (hF:FnSat C T cf F d) (hA:AOk A d) (hh:A.handled=none ∨ T.hd=true) (hfr:A.frames=some (reals fs)) {g:Nat} {fn:Fn} {fa:Addr} (e1:T.fns g=some fn) (e2:F.fv g=some fa)
    {vs:List V} {xs:List Value} (hv:VRs W vs xs) (H:HR C fs W os s.heap):Sat C A (PySem.call (.ref fa) xs) VR fs W (cf g vs os) s:=by
  intro hf
  obtain ⟨fa',fd,e3,e4,_⟩:=hT.fv g fn e1
  refine wpAny_call (codeAny_mono (hF g fn fa fd e1 e2 e4 A fs W os s vs ⟨xs,[]⟩ hA hh hfr H (fun ws hw=>hT.bind g fn fd e1 e4 W vs xs s ws (H.kin X) hv hw) hf) fun r s' h=>?_)
  rcases r with e | (v | _ | _ | _)<;>exact h
theorem HR.inst (H:HR C fs W os s.heap) {i c dd:Nat} {a:Addr} (e:os[i]?=some (.inst c dd)) (ea:W.φ[i]?=some a):∃ Ca dx,C.cls c=some Ca∧W.φ[dd]?=some dx∧s.heap.get? a=some (instObj Ca dx):=by
  obtain ⟨ob,h1,h2⟩:=H.objs _ _ _ e ea
  cases h2 with
  | inst _ _ Ca dx q1 q2=>exact ⟨Ca,dx,q1,q2,h1⟩
theorem HR.attrs (H:HR C fs W os s.heap) {dd:Nat} {l:List (Nat × V)} {dx:Addr} (e:os[dd]?=some (.attrs l)) (ea:W.φ[dd]?=some dx) :
    ∃ o es,s.heap.get? dx=some o∧ER C W l es∧DObj (strKind C.prog C.w) o es:=by
  obtain ⟨ob,h1,h2⟩:=H.objs _ _ _ e ea
  cases h2 with
  | attrs _ es o q1 q2=>exact ⟨_,es,h1,q1,q2⟩
theorem instAt {h:Heap} {x Ca dx:Addr} {o:Obj} (g:h.get? x=some (instObj Ca dx)) (g2:h.get? dx=some o):InstAt h x (instObj Ca dx) Ca (some o):=⟨g,rfl,rfl,g2⟩
theorem VR.handed {v:V} {x:Value} (h:VR W v x):handedIn x=true:=by cases h<;>rfl
theorem sat_field (X:CxOk C) (hT:TabOk C T F) {i c dd a:Nat} {x:Addr} {name:Str} {l:List (Nat × V)} {v:V} (H:HR C fs W os s.heap) (ex:W.φ[i]?=some x) (ei:os[i]?=some (.inst c dd)) (ed:os[dd]?=some (.attrs l)) (hn:C.nm[a]?=some name)
    (hp:T.prop c a=none) (hm:T.meth c a=none) (ev:lookN a l=some v) {Q:Value→Shared→Prop} {E:Value→Shared→Prop} (h:∀ y,VR W v y→Q y { s with toks:=s.toks+1 }) :
    wpAny (model C.prog C.w) A (getAttr (.ref x) name true) Q E s:=by
  obtain ⟨Ca,dx,q1,q2,g⟩:=H.inst ei ex
  obtain ⟨o,es,g2,r,z⟩:=H.attrs ed q2
  obtain ⟨y,e1,e2⟩:=(r.find hT.nd hn).1 v ev
  obtain ⟨p1,p2,⟨attr,p3,p4⟩,_⟩:=hT.own c Ca a name q1 hn hp hm
  exact get_value (H.kin X) (instAt g g2) (plainGet_of p1).1 (findObj_own p2 p3 p4 (by rw [z.look,e1])) e2.handed (h y e2)
theorem base_of {e:Expr} {name:Str} {env:Env} (hb:bareCall e=false):attributeBase e name env (eval e env)=eval e env:=attrBase hb
inductive InstIs (C:Cx) (W:Wd) (os:List AO) (h:Heap) (c d:Nat):V→Value→Prop
  | mk (i:Nat) (a Ca dx:Addr) (o:Obj):os[i]?=some (.inst c d)→W.φ[i]?=some a→C.cls c=some Ca→W.φ[d]?=some dx→h.get? a=some (instObj Ca dx)→h.get? dx=some o→InstIs C W os h c d (.obj i) (.ref a)
theorem HR.inst? (H:HR C fs W os s.heap) {v:V} {x:Value} (r:VR W v x) {o:AO} (e:objAt os v=some o) {cd:Nat × Nat} (e2:o.inst?=some cd):InstIs C W os s.heap cd.1 cd.2 v x:=by
  cases AO.inst_of e2
  cases H.obj? r e with
  | mk i a ob e0 ea g q=>cases q with
    | inst _ _ Ca dx q1 q2 =>
      have hi:cd.2 < W.φ.length:=(List.getElem?_eq_some_iff.mp q2).1
      rw [H.len] at hi
      obtain ⟨ob,h1,_⟩:=H.objs cd.2 os[cd.2] dx (List.getElem?_eq_getElem hi) q2
      exact .mk i a Ca dx ob e0 ea q1 q2 g h1
theorem slotAt_spec (H:HR C fs W os s.heap) {v:V} {x:Value} (hv:VR W v x) {a:Nat} {da:Nat × List (Nat × V)} (e:slotAt T v a os=some da):∃ c,InstIs C W os s.heap c da.1 v x∧T.prop c a=none∧T.meth c a=none∧os[da.1]?=some (.attrs da.2):=by
  obtain ⟨o,eo,e⟩:=bindSome e
  obtain ⟨cd,ec,e⟩:=bindSome e
  cases ep:T.prop cd.1 a with
  | some _=>rw [ep] at e; exact noSome e
  | none =>
    rw [ep] at e
    cases em:T.meth cd.1 a with
    | some _=>rw [em] at e; exact noSome e
    | none =>
      rw [em] at e
      obtain ⟨al,ed,e⟩:=bindSome e
      cases e
      obtain ⟨o',eo',ea⟩:=bindSome ed
      cases AO.attrs_of ea
      exact ⟨cd.1,H.inst? hv eo ec,ep,em,eo'⟩
theorem PX.notOk {α:Type} {v:α} {os':List AO} {e:Value} {s':Shared} (h:PX C fs W s (.ok v os':R α) e s'):False:=by
  cases h with
  | mk m os2 W' a er=>exact nomatch er
theorem sat_prop (X:CxOk C) (hT:TabOk C T F) (hF:FnSat C T cf F d) (hA:BOk A d) (hh:A.handled=none ∨ T.hd=true) (hfr:A.frames=some (reals fs)) {name:Str} {a g:Nat} (hn:C.nm[a]?=some name) (H:HR C fs W os s.heap) {c dd:Nat} {v:V} {x:Value} (I:InstIs C W os s.heap c dd v x)
    (ep:T.prop c a=some g):Sat C A (getAttr x name true) VR fs W (cf g [v] os).okOnly s:=by
  cases I with
  | mk i x Ca dx o ei ex q1 q2 gx gd =>
    obtain ⟨pf,p,fa,rest,p1,p2,p3,p4,p5,p6,p7⟩:=hT.prop c Ca a name g q1 hn ep
    obtain ⟨cd,hc,hd⟩:=any_some p3
    have hf:findObj C.K Ca (some o) name=some (.bind (.builtin "property.__get__") (.ref p)):=by
      unfold findObj
      rw [hc,Option.bind_some,p4,Option.bind_some]
      dsimp only
      rw [p5,Option.bind_some]
      dsimp only
      rw [p6,Option.bind_some]
    clear hc hd p3 p4 p5 p6 cd
    intro hr
    obtain ⟨fn,e1⟩:=Option.isSome_iff_exists.mp pf
    obtain ⟨fa',fd,e3,e4,_⟩:=hT.fv g fn e1
    have hv:VRs W [.obj i] [.ref x]:=.cons (.obj i x ex) .nil
    refine get_bind (H.kin X) (instAt gx gd) (plainGet_of p2).1 hf (plainGet_of p2).2 (wpAny_call (prop_get (s:={ s with toks:=s.toks+1 }) (H.kin X) p7 ?_))
    refine codeAny_mono (hF g fn fa fd e1 p1 e4 A.in1 fs W os { s with toks:=s.toks+1 } [.obj i] ⟨[.ref x],[]⟩ hA.a1 hh hfr H (fun ws hw=>hT.bind g fn fd e1 e4 W _ _ _ ws (H.kin X) hv hw) (fun z=>hr (by rw [z]; rfl))) fun r s2 h=>?_
    clear hf hF
    generalize cf g [.obj i] os=q at h hr ⊢
    cases q with
    | fail=>exact absurd rfl hr
    | exc m os=>exact absurd rfl hr
    | ok w os =>
      rcases r with e | (_ | _ | _ | y)
      · exact h.notOk.elim
      · exact h.elim
      · exact h.elim
      · exact h.elim
      · obtain ⟨v2,os3,W3,e',le3,H3,q3,sm⟩:=h
        cases e'
        dsimp only
        rw [handedOut_of q3.handed]
        exact wpAny_pure ⟨_,_,W3,rfl,le3,H3,q3,⟨sm.1,sm.2.1,sm.2.2⟩⟩
theorem es_attr (X:CxOk C) (hT:TabOk C T F) (hF:FnSat C T cf F d) (hA:BOk A d) (hh:A.handled=none ∨ T.hd=true) (hfr:A.frames=some (reals fs)) {e:Expr} {name:Str} {pos:Pos} {env:Env} {a:Nat} {ce:List AO→R V} (hb:bareCall e=false) (hn:C.nm[a]?=some name) (he:ES C A fs (eval e env) ce) :
    ES C A fs (eval (.Attribute e name pos) env) (fun os=>(ce os).bind fun v s=>attrOf T cf a v s):=by
  intro W os s H
  rw [arm_eval_Attribute,base_of hb]
  refine Sat.bind (he W os s H) fun v os1 W1 x s1 le1 H1 q1=>Sat.standAt ?_
  rw [← R.bind_ok (attrOf T cf a v os1)]
  refine Sat.bind (rel':=VR) (Sat.holding ?_) fun v os2 W2 y s2 le2 H2 q2=>fun _=>wpAny_bind (wpAny_letTemporaryGo (wpAny_pure ⟨v,os2,W2,rfl,.refl _,H2,q2,.refl _⟩))
  refine Sat.opt fun o eo=>Sat.opt fun cd ecd=>?_
  have I:=H1.inst? q1 eo ecd
  cases ep:T.prop cd.1 a with
  | some g=>exact sat_prop X hT hF hA hh hfr hn H1 I ep
  | none=>cases em:T.meth cd.1 a with
    | some _=>exact Sat.fail
    | none =>
      refine Sat.opt fun al eal=>Sat.opt fun v ev=>?_
      cases I with
      | mk i x Ca dx o ei ex q1 q2 gx gd =>
        obtain ⟨o,ed,eo⟩:=bindSome eal
        cases AO.attrs_of eo
        exact fun _=>sat_field X hT H1 ex ei ed hn ep em ev fun y hy=>⟨v,os1,W1,rfl,.refl _,H1,hy,.toks _ _⟩
end
theorem plainAttrs_deque:PlainAttrs "collections.deque" :=
  ⟨⟨"collections.deque.__getattribute__",by rw [typeLookup_type,builtinLookup_eq_fast]; kernel_rfl,by decide +kernel⟩,by rw [typeLookup_type,builtinLookup_eq_fast]; kernel_rfl⟩
structure GlobOk (C:Cx) (N:Nm) (T:Tab) (F:Fns):Prop where
  fn:∀ x g,posOf x N.fn 0=some g→∃ fn fa,T.fns g=some fn∧F.fv g=some fa∧C.mg x=some (.ref fa)
  bi:∀ x b,biOf x=some b→C.mg x=none∧C.mb x=some (biVal b)
  isi:C.mg "isinstance"=none∧C.mb "isinstance"=some (.builtin "isinstance")
  str:C.mg "str"=none∧C.mb "str"=some (.type "str")
  dict:C.mg "dict"=none∧C.mb "dict"=some (.type "dict")
  deque:C.mg "deque"=some (.type "collections.deque")
  typ:∀ x t,typOf x=some t→C.mg x=none∧C.mb x=some (.type (typName t))
  exc:C.mg "ValueError"=none∧C.mb "ValueError"=some (.type "ValueError")
section
variable {C:Cx} {N:Nm} {T:Tab} {F:Fns} {cf:Nat→List V→List AO→R V} {A:Around} {fs:List FrD} {W:Wd} {os:List AO} {s:Shared} {d:Nat}
theorem es_callF (X:CxOk C) (hT:TabOk C T F) (hG:GlobOk C N T F) (hF:FnSat C T cf F d) (hA:BOk A d) (hh:A.handled=none ∨ T.hd=true) (hfr:A.frames=some (reals fs)) {f:FrD} (hm:f ∈ fs) {x:Str} {p pos:Pos} {g:Nat} {es:List Expr} {cs:List AO→R (List V)}
    (hs:anyStar es=false) (hg:glob f.env.scope.names x=true) (ho:okName x=true) (hx:posOf x N.fn 0=some g) (h:LS C A fs (es.map fun e=>(false,eval e f.env)) cs) :
    ES C A fs (eval (.Call (.Name x p) es [] pos) f.env) (fun os=>(cs os).bind fun vs os=>cf g vs os):=by
  obtain ⟨fn,fa,e1,e2,e3⟩:=hG.fn x g hx
  obtain ⟨fa',fd,e4,e5,e6⟩:=hT.fv g fn e1
  rw [e2] at e4; cases e4
  exact es_call X hm hs hg ho (.inl e3) (keepOk_in e6) h fun W vs xs os s hv H=>hF.call X hT hA.a hh hfr e1 e2 hv H
noncomputable def BI.plain:BI→Bool
  | .isStr=>false
  | .fromkeys=>false
  | .deque=>false
  | _=>true
theorem ifPlain {c:Bool} {a b:BI} {o:Option BI} (h:(if c=true then some a else o)=some b) (ha:a.plain=true) (ho:o=some b→b.plain=true):b.plain=true:=by
  cases c with
  | true=>cases h; exact ha
  | false=>exact ho h
theorem biOf_plain {x:Str} {b:BI} (h:biOf x=some b):b.plain=true :=
  ifPlain h rfl fun h=>ifPlain h rfl fun h=>ifPlain h rfl fun h=>ifPlain h rfl fun h=>ifPlain h rfl fun h=>noSome h
theorem biArgs_plain {b:BI} {xs:List Value} (h:b.plain=true):biArgs b xs=xs:=by cases b<;>first | rfl | exact noTrue h
set_option tactic.hygienic true in
theorem es_biCall (X:CxOk C) (hG:GlobOk C N T F) (hA:BOk A d) (hh:A.handled=none ∨ T.hd=true) {f:FrD} (hm:f ∈ fs) {x:Str} {p pos:Pos} {b:BI} {es:List Expr} {cs:List AO→R (List V)}
    (hs:anyStar es=false) (hg:glob f.env.scope.names x=true) (ho:okName x=true) (hx:biOf x=some b) (h:LS C A fs (es.map fun e=>(false,eval e f.env)) cs) :
    ES C A fs (eval (.Call (.Name x p) es [] pos) f.env) (fun os=>(cs os).bind fun vs os=>match T.hd&&b.loops with
      | true=>.fail
      | false=>biOp os b vs):=by
  have hne:=biOf_plain hx
  have hk:KeepOk C (biVal b):=by cases b<;>first | exact keepOk_builtin | exact keepOk_type
  refine es_call X hm hs hg ho (.inr (hG.bi x b hx)) hk h fun W vs xs os s hv H=>?_
  split
  · exact Sat.fail
  · rename_i e
    have:=sat_biAll (A:=A) (b:=b) hv H (fun hb=>by
      rcases hh with hh | hh
      · exact hh
      · rw [hh,hb] at e; cases e) (by have:=hA.lt; omega)
    rw [biArgs_plain hne] at this
    exact this
theorem es_dequeCall (X:CxOk C) (hG:GlobOk C N T F) (hA:BOk A d) {f:FrD} (hm:f ∈ fs) {p pos:Pos} {es:List Expr} {cs:List AO→R (List V)}
    (hs:anyStar es=false) (hg:glob f.env.scope.names "deque"=true) (h:LS C A fs (es.map fun e=>(false,eval e f.env)) cs) :
    ES C A fs (eval (.Call (.Name "deque" p) es [] pos) f.env) (fun os=>(cs os).bind fun vs os=>match T.hd&&BI.deque.loops with
      | true=>.fail
      | false=>biOp os .deque vs):=by
  refine es_call X hm hs hg (by decide) (.inl hG.deque) keepOk_type h fun W vs xs os s hv H=>?_
  split
  · exact Sat.fail
  · exact sat_biAll (A:=A) (b:=.deque) hv H (fun hb=>nomatch hb) (by have:=hA.lt; omega)
theorem es_isStr (X:CxOk C) (hG:GlobOk C N T F) (hA:BOk A d) {f:FrD} (hm:f ∈ fs) {p p2 pos:Pos} {a:Expr} {c:List AO→R V}
    (hs:isStar a=false) (hg:glob f.env.scope.names "isinstance"=true) (hg2:glob f.env.scope.names "str"=true) (h:ES C A fs (eval a f.env) c) :
    ES C A fs (eval (.Call (.Name "isinstance" p) [a,.Name "str" p2] [] pos) f.env) (fun os=>((c os).bind fun v os=>(.ok [v] os:R (List V))).bind fun vs os=>match T.hd&&BI.isStr.loops with
      | true=>.fail
      | false=>biOp os .isStr vs):=by
  have hl:LS C A fs ([a,.Name "str" p2].map fun e=>(false,eval e f.env)) (fun os=>(c os).bind fun v os=>(.ok [v,.typ 2] os:R (List V))):=by
    have h2:ES C A fs (eval (.Name "str" p2) f.env) (fun os=>.ok (.typ 2) os):=es_typ X hm hg2 (by decide) (hG.typ "str" 2 (by decide))
    have:=ls_cons h (ls_cons h2 ls_nil)
    exact this
  have hst:anyStar [a,.Name "str" p2]=false:=by
    unfold anyStar
    rw [List.any_cons,hs]
    rfl
  have key:=es_call (A:=A) X hm (es:=[a,.Name "str" p2]) (p:=p) (pos:=pos) (g:=fun vs os=>match vs with | [v,.typ 2]=>biOp os .isStr [v] | _=>.fail) hst hg (by decide) (.inr hG.isi) keepOk_builtin hl fun W vs xs os s hv H=>by
    split
    · cases hv with
      | cons q qs=>cases qs with
        | cons q2 qs2=>cases qs2; cases q2; exact sat_biAll (A:=A) (b:=.isStr) (.cons q .nil) H (fun hb=>nomatch hb) (by have:=hA.lt; omega)
    · exact Sat.fail
  intro W os s H
  have:=key W os s H
  refine Eq.mpr (congrArg (fun r=>Sat C A _ VR fs W r s) ?_) this
  dsimp only
  generalize c os=r
  cases r with
  | ok v os=>show (match T.hd&&false with | true=>R.fail | false=>biOp os .isStr [v])=biOp os .isStr [v]; rw [Bool.and_false]
  | exc m os=>rfl
  | fail=>rfl
theorem wp_getB {x:Value} {Tn:String} {name:Str} {id:String} {pl:Sem Bool} {P:Value × List Value→Shared→Prop} {E:Value→Shared→Prop} (hT:s.TypeIs x Tn) (pa:PlainAttrs Tn) (slot:Slot Tn name id) (hty:typeOf (.builtin id)=pure (.type "method_descriptor"))
    (hd:∀ a,x=.ref a→∃ o,s.heap.get? a=some o∧o.dict=none) (h:∀ tk,P (.builtin id,[x]) { s with toks:=tk }):wpAny (model C.prog C.w) A (getMethod x name pl) P E s :=
  getMethod_builtin hT pa slot hty hd (h s.toks)
noncomputable def bmName:BM→Str
  | .find=>"find" | .join=>"join" | .append=>"append" | .pop=>"pop" | .maketrans=>"maketrans" | .translate=>"translate"
theorem ifSome {α:Type} {b:Bool} {a c:α} {o:Option α} (h:(if b=true then some a else o)=some c):b=true∧a=c ∨ o=some c:=by
  cases b with
  | true=>exact .inl ⟨rfl,Option.some.inj h⟩
  | false=>exact .inr h
theorem bmOf_name {x:Str} {m:BM} (h:bmOf x=some m):x=bmName m:=by
  rcases ifSome h with ⟨e,rfl⟩ | h
  · exact eq_of_beq e
  rcases ifSome h with ⟨e,rfl⟩ | h
  · exact eq_of_beq e
  rcases ifSome h with ⟨e,rfl⟩ | h
  · exact eq_of_beq e
  rcases ifSome h with ⟨e,rfl⟩ | h
  · exact eq_of_beq e
  rcases ifSome h with ⟨e,rfl⟩ | h
  · exact eq_of_beq e
  rcases ifSome h with ⟨e,rfl⟩ | h
  · exact eq_of_beq e
  · exact noSome h
theorem bmVal_same {os os':List AO} {m:BM} {v:V} {k:Nat} (h1:recvK os m v=some k) (h2:recvK os' m v=some k):bmVal os' m v=bmVal os m v:=by
  cases m with
  | append =>
    obtain ⟨o1,e1,k1⟩:=bindSome h1
    obtain ⟨o2,e2,k2⟩:=bindSome h2
    cases v with
    | obj i=>cases o1 with
      | list vs=>cases o2 with
        | list ws=>rw [bmVal_list e1,bmVal_list e2]
        | deque ws=>cases k1; cases k2
        | _=>exact noSome k2
      | deque vs=>cases o2 with
        | list ws=>cases k1; cases k2
        | deque ws=>rw [bmVal_deque e1,bmVal_deque e2]
        | _=>exact noSome k2
      | _=>exact noSome k1
    | _=>exact noSome e1
  | _=>rfl
theorem strNoRef {h:Heap} (l:List Nat) (t:Tok) (a:Addr) (e:Value.str (strV l) t=.ref a):∃ o,h.get? a=some o∧o.dict=none:=nomatch e
section
variable {x:Value} {v:V} {k:Nat} {pl:Sem Bool} {P:Value × List Value→Shared→Prop} {E:Value→Shared→Prop}
theorem bm_find (hv:VR W v x) (ek:recvK os .find v=some k) (hP:∀ tk,P (.builtin "str.find",[x]) { s with toks:=tk }):wpAny (model C.prog C.w) A (getMethod x "find" pl) P E s:=by
  obtain ⟨l,el,_⟩:=bindSome ek
  cases hv.str? el with
  | mk t hl=>with_reducible exact wp_getB (typeIs_str _ _ _) F.plainAttrs_str F.slot_str_find F.type_str_find (strNoRef l t) hP
theorem bm_join (hv:VR W v x) (ek:recvK os .join v=some k) (hP:∀ tk,P (.builtin "str.join",[x]) { s with toks:=tk }):wpAny (model C.prog C.w) A (getMethod x "join" pl) P E s:=by
  obtain ⟨l,el,_⟩:=bindSome ek
  cases hv.str? el with
  | mk t hl=>with_reducible exact wp_getB (typeIs_str _ _ _) F.plainAttrs_str F.slot_str_join F.type_str_join (strNoRef l t) hP
theorem bm_translate (hv:VR W v x) (ek:recvK os .translate v=some k) (hP:∀ tk,P (.builtin "str.translate",[x]) { s with toks:=tk }):wpAny (model C.prog C.w) A (getMethod x "translate" pl) P E s:=by
  obtain ⟨l,el,_⟩:=bindSome ek
  cases hv.str? el with
  | mk t hl=>with_reducible exact wp_getB (typeIs_str _ _ _) F.plainAttrs_str F.slot_str_translate F.type_str_translate (strNoRef l t) hP
theorem bm_append (H:HR C fs W os s.heap) (hv:VR W v x) (ek:recvK os .append v=some k) (hP:∀ tk,P (bmVal os .append v,[x]) { s with toks:=tk }):wpAny (model C.prog C.w) A (getMethod x "append" pl) P E s:=by
  obtain ⟨o,eo,ek⟩:=bindSome ek
  cases H.obj? hv eo with
  | mk i a ob e0 ea g r=>cases r with
    | list ws ys n r lx =>
      rw [bmVal_list e0] at hP
      have hT:s.TypeIs (.ref a) "list":=⟨_,g,rfl⟩
      with_reducible exact wp_getB hT F.plainAttrs_list PySem.slot_list_append PySem.type_list_append (fun a' e=>by cases e; exact ⟨_,g,rfl⟩) hP
    | deque ws ys st r lx =>
      rw [bmVal_deque e0] at hP
      have hT:s.TypeIs (.ref a) "collections.deque":=⟨_,g,rfl⟩
      with_reducible exact wp_getB hT plainAttrs_deque slot_deque_append type_deque_append (fun a' e=>by cases e; exact ⟨_,g,rfl⟩) hP
    | _=>exact noSome ek
theorem bm_pop (H:HR C fs W os s.heap) (hv:VR W v x) (ek:recvK os .pop v=some k) (hP:∀ tk,P (.builtin "collections.deque.pop",[x]) { s with toks:=tk }):wpAny (model C.prog C.w) A (getMethod x "pop" pl) P E s:=by
  obtain ⟨_,ek,_⟩:=bindSome ek
  obtain ⟨o,eo,ek⟩:=bindSome ek
  cases AO.deque_of ek
  cases H.obj? hv eo with
  | mk i a ob e0 ea g r=>cases r with
    | deque ws ys st r lx =>
      have hT:s.TypeIs (.ref a) "collections.deque":=⟨_,g,rfl⟩
      with_reducible exact wp_getB hT plainAttrs_deque slot_deque_pop type_deque_pop (fun a' e=>by cases e; exact ⟨_,g,rfl⟩) hP
theorem bm_maketrans (hv:VR W v x) (ek:recvK os .maketrans v=some k) (hP:∀ tk,P (.builtin "str.maketrans",[]) { s with toks:=tk }):wpAny (model C.prog C.w) A (getMethod x "maketrans" pl) P E s:=by
  obtain ⟨l,el,_⟩:=bindSome ek
  cases hv.str? el
  exact get_maketrans hP
theorem bm_get {m:BM} (H:HR C fs W os s.heap) (hv:VR W v x) (ek:recvK os m v=some k) (hP:∀ tk,P (bmVal os m v,bmSelf m x) { s with toks:=tk }):wpAny (model C.prog C.w) A (getMethod x (bmName m) pl) P E s:=by
  cases m with
  | find=>exact bm_find hv ek hP
  | join=>exact bm_join hv ek hP
  | append=>exact bm_append H hv ek hP
  | pop=>exact bm_pop H hv ek hP
  | maketrans=>exact bm_maketrans hv ek hP
  | translate=>exact bm_translate hv ek hP
end
theorem bmVal_keep {m:BM} {v:V}:KeepOk C (bmVal os m v):=by
  have:∃ id,bmVal os m v=.builtin id:=by
    unfold bmVal
    split<;>try exact ⟨_,rfl⟩
    split<;>exact ⟨_,rfl⟩
  obtain ⟨id,e⟩:=this
  rw [e]
  exact keepOk_builtin
theorem es_bm (X:CxOk C) (hA:BOk A d) (hh:A.handled=none ∨ T.hd=true) {f:FrD} {o:Expr} {name:Str} {apos pos:Pos} {m:BM} {es:List Expr} {c:List AO→R V} {cs:List AO→R (List V)} (hx:bmOf name=some m)
    (hs:anyStar es=false) (hb:bareCall o=false) (hn:es.length ≤ 20) (hp:(apos.endLine == pos.line)=true) (ho:ES C A fs (eval o f.env) c) (h:LS C A fs (es.map fun e=>(false,eval e f.env)) cs) :
    ES C A fs (eval (.Call (.Attribute o name apos) es [] pos) f.env) (fun os=>(c os).bind fun v os=>R.opt (recvK os m v) fun k=>(cs os).bind fun vs os=>if (!(T.hd&&m.loops)&&recvK os m v == some k)=true then bmOp os m v vs else .fail):=by
  refine es_meth X hs hb hn hp ho h fun W v x os s hv H hf=>?_
  obtain ⟨k,ek,_⟩:=R.opt_ne hf
  refine ⟨_,bmVal os m v,bmSelf m x,by rw [ek]; rfl,bmVal_keep,fun pl P E hP=>?_,fun W' vs xs os' s' le hvs H'=>Sat.ite fun hc=>?_⟩
  · rw [bmOf_name hx]
    exact bm_get H hv ek hP
  · obtain ⟨e1,e2⟩:=and_of hc
    rw [← bmVal_same ek (eq_of_beq e2)]
    refine sat_bm X.sm (hv.mono le) hvs H' fun e=>hh.elim id fun hh=>?_
    rw [hh,e] at e1
    exact noTrue e1
theorem methOf_spec {mi:Nat} {v:V} {x:Value} (H:HR C fs W os s.heap) (hv:VR W v x) {g:Nat} (e:methOf T mi v os=some g):∃ c dd al,InstIs C W os s.heap c dd v x∧T.meth c mi=some g∧os[dd]?=some (.attrs al)∧lookN mi al=none:=by
  obtain ⟨o,eo,e⟩:=bindSome e
  obtain ⟨cd,ec,e⟩:=bindSome e
  obtain ⟨f,em,e⟩:=bindSome e
  obtain ⟨al,ed,e⟩:=bindSome e
  obtain ⟨o',eo',ea⟩:=bindSome ed
  cases AO.attrs_of ea
  cases el:lookN mi al with
  | some _=>rw [el] at e; exact noSome e
  | none=>rw [el] at e; cases e; exact ⟨cd.1,cd.2,al,H.inst? hv eo ec,em,eo',el⟩
theorem es_callM (X:CxOk C) (hT:TabOk C T F) (hF:FnSat C T cf F d) (hA:BOk A d) (hh:A.handled=none ∨ T.hd=true) (hfr:A.frames=some (reals fs)) {f:FrD} {o:Expr} {name:Str} {apos pos:Pos} {mi:Nat} {es:List Expr} {c:List AO→R V} {cs:List AO→R (List V)} (hx:C.nm[mi]?=some name)
    (hs:anyStar es=false) (hb:bareCall o=false) (hn:es.length ≤ 20) (hp:(apos.endLine == pos.line)=true) (ho:ES C A fs (eval o f.env) c) (h:LS C A fs (es.map fun e=>(false,eval e f.env)) cs) :
    ES C A fs (eval (.Call (.Attribute o name apos) es [] pos) f.env) (fun os=>(c os).bind fun v s=>R.opt (methOf T mi v s) fun f=>(cs s).bind fun vs s=>cf f (v :: vs) s):=by
  refine es_meth X hs hb hn hp ho h fun W v x os s hv H hf=>?_
  obtain ⟨g,eg,_⟩:=R.opt_ne hf
  obtain ⟨c,dd,al,I,em,ed,el⟩:=methOf_spec H hv eg
  cases I with
  | mk i x Ca dx o' ei ex q1 q2 gx gd =>
    obtain ⟨p0,fa,p1,p2,p3,p4⟩:=hT.meth c Ca mi name g q1 hx em
    obtain ⟨fn,e1⟩:=Option.isSome_iff_exists.mp p0
    obtain ⟨fa',fd,e3,e4,e5⟩:=hT.fv g fn e1
    rw [p1] at e3; cases e3
    refine ⟨fun vs s=>cf g (.obj i :: vs) s,.ref fa,[.ref x],by rw [eg]; rfl,keepOk_in e5,fun pl P E hP=>?_,fun W' vs xs os' s' le hvs H'=>hF.call X hT hA.a hh hfr e1 p1 (.cons (.obj i x (le.at ex)) hvs) H'⟩
    obtain ⟨o',es',g2,r,z⟩:=H.attrs ed q2
    refine method_fn (H.kin X) (instAt gx g2) (plainGet_of p2).1 (plainGet_of p2).2 p3 p4 ?_ (hP s.toks)
    show (lookIn name o').map _=_
    rw [z.look,(r.find hT.nd hx).2 el]
    rfl
end
theorem VR.low {W:Wd} {v:V} {x:Value} (r:VR W v x):v.low W.φ.length=true :=
  (VR.both (P:=fun v _=>v.low W.φ.length=true) (Ps:=fun vs _=>lows W.φ.length vs=true) rfl (fun _=>rfl) (fun _ _=>rfl) (fun _ _ _=>rfl) (fun _=>rfl) (fun _ _ _ _ _ _=>rfl) (fun _ _ _ _ _ _ _ i=>by unfold V.low; exact i) (fun _ _ _ _ _ _ _ i=>by unfold V.low; exact i)
    (fun _ _ _=>rfl) (fun i a e=>by unfold V.low; exact decide_eq_true (List.getElem?_eq_some_iff.mp e).1) rfl fun v x vs xs a b=>by unfold lows; rw [a,b]; rfl).1 r
noncomputable abbrev Wd.cut (W:Wd) (n:Nat):Wd:=⟨W.φ.take n,W.kp⟩
theorem VR.cut2 {W:Wd} {n:Nat}:(∀ {v x},VR W v x→v.low n=true→VR (W.cut n) v x)∧∀ {vs xs},VRs W vs xs→lows n vs=true→VRs (W.cut n) vs xs :=
  VR.both (fun _=>.none) (fun b _=>.bool b) (fun i t _=>.int i t) (fun l t q _=>.str l t q) (fun k _=>.typ k) (fun n a t u v m _=>.rng n a t u v m)
    (fun vs a xs n m _ q i h=>.tup vs a xs n m (i (by unfold V.low at h; exact h)) q) (fun vs a xs n m _ q i h=>.lst vs a xs n m (i (by unfold V.low at h; exact h)) q) (fun m e k _=>k _ fun p m _=>m)
    (fun i a e h=>.obj i a (by
      unfold V.low at h
      rw [List.getElem?_take,if_pos (of_decide_eq_true h)]; exact e)) (fun _=>.nil) fun v x vs xs a b h=>by
        unfold lows at h
        obtain ⟨h1,h2⟩:=and_of h
        exact .cons (a h1) (b h2)
theorem VR.cut {W:Wd} {n:Nat} {v:V} {x:Value} (r:VR W v x) (h:v.low n=true):VR (W.cut n) v x:=VR.cut2.1 r h
theorem VRs.cut {W:Wd} {n:Nat} {vs:List V} {xs:List Value} (r:VRs W vs xs) (h:lows n vs=true):VRs (W.cut n) vs xs:=VR.cut2.2 r h
theorem cut_at {W:Wd} {n i:Nat} {a:Addr} (h:i < n) (e:W.φ[i]?=some a):(W.cut n).φ[i]?=some a:=by
  show (W.φ.take n)[i]?=_
  rw [List.getElem?_take,if_pos h]; exact e
theorem le_cut {W W':Wd} {n:Nat} (le:W.le W') (h:W.φ.length=n):W.le (W'.cut n):=by
  refine ⟨?_,le.kp⟩
  obtain ⟨t,ht⟩:=le.φ
  show W.φ <+: W'.φ.take n
  rw [← ht,List.take_append_of_le_length (by omega),← h,List.take_length]
  exact List.prefix_refl _
section
variable {C:Cx} {A:Around} {fs fs':List FrD} {W:Wd} {os:List AO} {h:Heap} {n:Nat}
theorem ER.cut {l:List (Nat × V)} {es:List (Str × Value)} (r:ER C W l es) (q:lows n (l.map (·.2))=true):ER C (W.cut n) l es:=by
  induction r with
  | nil=>exact .nil
  | cons a b _ ih =>
    rw [List.map_cons] at q
    unfold lows at q
    simp only [Bool.and_eq_true] at q
    exact .cons a (b.cut q.1) (ih q.2)
theorem DR.cut {l:List (List Nat × V)} {es:List (Str × Value)} (r:DR W l es) (q:lows n (l.map (·.2))=true):DR (W.cut n) l es:=by
  induction r with
  | nil=>exact .nil
  | cons b _ ih =>
    rw [List.map_cons] at q
    unfold lows at q
    simp only [Bool.and_eq_true] at q
    exact .cons (b.cut q.1) (ih q.2)
theorem OR.cut {a:AO} {o:Obj} (x:OR C W a o) (q:a.low n=true):OR C (W.cut n) a o:=by
  cases x with
  | list vs xs k r z=>exact .list _ _ _ (r.cut q) z
  | inst c d Ca dx e1 e2=>exact .inst _ _ _ _ e1 (cut_at (of_decide_eq_true q) e2)
  | attrs l es o r z=>exact .attrs _ _ _ (r.cut q) z
  | deque vs xs st r z=>exact .deque _ _ _ (r.cut q) z
  | dict l es o r z=>exact .dict _ _ _ (r.cut q) z
  | keys l o z=>exact .keys _ _ z
  | ords l o z=>exact .ords _ _ z
  | cell v o x r e=>exact .cell _ _ x (fun v' ev=>let ⟨y,e1,e2⟩:=r v' ev; ⟨y,e1,e2.cut (by subst ev; exact q)⟩) e
theorem OR.weak {a:AO} {o:Obj} (x:OR C W a o):OR C W (a.trim n) o:=by
  cases x with
  | cell v o x r e =>
    cases v with
    | none=>exact .cell _ _ x r e
    | some v =>
      show OR C W (if v.low n then .cell (some v) else .cell none) o
      split
      · exact .cell _ _ x r e
      · exact .cell _ _ x (fun v' ev=>nomatch ev) e
  | list vs xs k r z=>exact .list _ _ _ r z
  | inst c d Ca dx e1 e2=>exact .inst _ _ _ _ e1 e2
  | attrs l es o r z=>exact .attrs _ _ _ r z
  | deque vs xs st r z=>exact .deque _ _ _ r z
  | dict l es o r z=>exact .dict _ _ _ r z
  | keys l o z=>exact .keys _ _ z
  | ords l o z=>exact .ords _ _ z
theorem aoLows_get:∀ {os:List AO} {i:Nat} {o:AO},aoLows n os=true→os[i]?=some o→o.low n=true
  | [],_,_,_,e=>by simp at e
  | a :: os,0,o,h,e=>by
    unfold aoLows at h
    simp only [Bool.and_eq_true] at h
    simp at e; subst e; exact h.1
  | a :: os,i+1,o,h,e=>by
    unfold aoLows at h
    simp only [Bool.and_eq_true] at h
    exact aoLows_get h.2 (by simpa using e)
noncomputable def LV.low (n:Nat):LV→Bool
  | .val v=>v.low n
  | .cel i=>decide (i < n)
  | .un=>true
theorem LR.cut {env:Env} {m:Str→Option Value} {x:Str} {k:NameKind} {v:LV} (r:LR W env m x k v) (q:v.low n=true):LR (W.cut n) env m x k v:=by
  cases v with
  | un=>trivial
  | val v=>exact ⟨r.1,let ⟨y,e1,e2⟩:=r.2; ⟨y,e1,e2.cut q⟩⟩
  | cel j=>exact ⟨r.1,let ⟨a,e1,e2⟩:=r.2; ⟨a,e1,cut_at (of_decide_eq_true q) e2⟩⟩
theorem LR.lowOf {env:Env} {m:Str→Option Value} {x:Str} {k:NameKind} {v:LV} (r:LR W env m x k v):v.low W.φ.length=true:=by
  cases v with
  | un=>rfl
  | val v=>obtain ⟨_,y,_,e⟩:=r; exact e.low
  | cel j=>obtain ⟨_,a,_,e⟩:=r; exact decide_eq_true (List.getElem?_eq_some_iff.mp e).1
theorem FR.cutSame {W₀:Wd} {h₀:Heap} {f:FrD} (r₀:FR W₀ h₀ f) (hn:W₀.φ.length=n) (r:FR W h f):FR (W.cut n) h f:=by
  obtain ⟨m,e1,e2⟩:=r.ns
  obtain ⟨m0,_,e20⟩:=r₀.ns
  exact ⟨r.kind,r.glob,r.bns,⟨m,e1,fun i x k v q1 q2=>(e2 i x k v q1 q2).cut (hn ▸ (e20 i x k v q1 q2).lowOf)⟩,r.cel⟩
set_option tactic.hygienic true in
theorem FR.cutTrim {f:FrD} (r:FR W h f) (hc:celsLow n f.loc=true):FR (W.cut n) h ⟨f.env,f.loc.map (LV.trim n)⟩:=by
  have cl:∀ {l:List LV} {i j:Nat},celsLow n l=true→l[i]?=some (.cel j)→j < n:=by
    intro l
    induction l with
    | nil=>intro i j _ e; simp at e
    | cons a l ih =>
      intro i j hc e
      cases i with
      | zero =>
        simp at e; subst e
        unfold celsLow at hc
        simp only [Bool.and_eq_true,decide_eq_true_eq] at hc
        exact hc.1
      | succ i =>
        have hc':celsLow n l=true:=by
          cases a with
          | cel q=>unfold celsLow at hc; simp only [Bool.and_eq_true] at hc; exact hc.2
          | un=>exact hc
          | val v=>exact hc
        exact ih hc' (by simpa using e)
  obtain ⟨m,e1,e2⟩:=r.ns
  refine ⟨r.kind,r.glob,r.bns,⟨m,e1,fun i x k v q1 q2=>?_⟩,fun i x q1 v q2=>?_⟩
  · dsimp only at q2
    rw [List.getElem?_map,Option.map_eq_some_iff] at q2
    obtain ⟨v0,q2,rfl⟩:=q2
    have:=e2 i x k v0 q1 q2
    cases v0 with
    | un=>trivial
    | val v =>
      show LR _ _ _ _ _ (if v.low n then .val v else .un)
      split
      · rename_i hl; exact this.cut hl
      · trivial
    | cel j=>exact this.cut (decide_eq_true (cl hc q2))
  · dsimp only at q2
    rw [List.getElem?_map,Option.map_eq_some_iff] at q2
    obtain ⟨v0,q2,rfl⟩:=q2
    obtain ⟨j,rfl⟩:=r.cel i x q1 v0 q2
    exact ⟨j,rfl⟩
theorem HR.weak (H:HR C fs W os h):HR C fs W (os.map (AO.trim n)) h where
  base:=H.base
  kept:=H.kept
  len:=by simp [H.len]
  objs i o a e1 e2:=by
    rw [List.getElem?_map,Option.map_eq_some_iff] at e1
    obtain ⟨o0,e1,rfl⟩:=e1
    obtain ⟨ob,x,y⟩:=H.objs i o0 a e1 e2
    exact ⟨ob,x,y.weak⟩
  frames:=H.frames
  nodup:=H.nodup
  apart:=H.apart
theorem HR.cut (H:HR C fs W os h) (hn:n ≤ os.length) (lo:aoLows n (os.take n)=true) (hfs:fs'.map (·.env.locals)=fs.map (·.env.locals)) (hfr:∀ f ∈ fs',FR (W.cut n) h f):HR C fs' (W.cut n) (os.take n) h where
  base:=H.base
  kept:=H.kept
  len:=by show (W.φ.take n).length=_; simp [H.len]
  objs i o a e1 e2:=by
    have hi:i < n:=by have:=(List.getElem?_eq_some_iff.mp e1).1; simp at this; omega
    have hlo:=aoLows_get lo e1
    rw [List.getElem?_take,if_pos hi] at e1
    have e2:W.φ[i]?=some a:=by
      have e2:(W.φ.take n)[i]?=some a:=e2
      rwa [List.getElem?_take,if_pos hi] at e2
    obtain ⟨ob,x,y⟩:=H.objs i o a e1 e2
    exact ⟨ob,x,y.cut hlo⟩
  frames:=hfr
  nodup:=by
    rw [hfs]
    exact H.nodup.sublist (List.Sublist.append (List.Sublist.refl _) (List.take_sublist n W.φ))
  apart a m:=by
    rw [hfs] at m
    refine H.apart a ?_
    rcases List.mem_append.mp m with m | m
    · exact List.mem_append_left _ m
    · exact List.mem_append_right _ (List.mem_of_mem_take m)
theorem HR.adopt (H:HR C fs W os h) {a:Addr} {ao:AO} {ob:Obj} (g:h.get? a=some ob) (r:OR C ⟨W.φ++[a],W.kp⟩ ao ob) (f1:a ∉ fs.map (·.env.locals)++W.φ) (f2:C.h₀.get? a=none) (f3:∀ p ∈ W.kp,p.1 ≠ a) :
    HR C fs ⟨W.φ++[a],W.kp⟩ (os++[ao]) h where
  base:=H.base
  kept:=H.kept
  len:=by simp [H.len]
  objs i o' b e1 e2:=by
    by_cases hi:i < os.length
    · rw [List.getElem?_append_left hi] at e1
      rw [List.getElem?_append_left (by rw [H.len]; exact hi)] at e2
      obtain ⟨ob,x,y⟩:=H.objs i o' b e1 e2
      exact ⟨ob,x,y.mono (leN W a)⟩
    · have:i=os.length:=by
        have:=(List.getElem?_eq_some_iff.mp e1).1
        simp at this
        omega
      subst this
      rw [List.getElem?_append_right (Nat.le_refl _)] at e1
      rw [List.getElem?_append_right (by rw [H.len]; exact Nat.le_refl _)] at e2
      simp [H.len] at e1 e2
      subst e1 e2
      exact ⟨ob,g,r⟩
  frames f m:=(H.frames f m).mono (leN W a)
  nodup:=by
    rw [← List.append_assoc]
    refine List.nodup_append.mpr ⟨H.nodup,by simp,?_⟩
    intro x hx b hb
    simp at hb
    subst hb
    exact fun e=>f1 (e ▸ hx)
  apart b m:=by
    rw [← List.append_assoc] at m
    rcases List.mem_append.mp m with m | m
    · exact H.apart b m
    · simp at m
      subst m
      exact ⟨f2,f3⟩
end
end Mine
end
section
open PySem PySem.W PySem.Calls PyProof.Rows
set_option backward.match.sparseCases false
namespace Mine
section
variable {C:Cx} {T:Tab} {F:Fns} {A:Around} {fs:List FrD} {f:FrD} {W:Wd} {os:List AO} {h:Heap} {s:Shared} {n:Nat}
theorem HR.setL (H:HR C (f :: fs) W os h) {h':Heap} {m:Str→Option Value} {l:List LV} (sb:Heap.SameBut f.env.locals h h') (hn:h'.Ns f.env.locals m)
    (hl:∀ (i:Nat) (x:Str) (k:NameKind) (v:LV),f.env.scope.names[i]?=some (x,k)→l[i]?=some v→LR W f.env m x k v)
    (hc:∀ (i:Nat) (x:Str),f.env.scope.names[i]?=some (x,.cell)→∀ v:LV,l[i]?=some v→∃ j,v=.cel j):HR C (⟨f.env,l⟩ :: fs) W os h' where
  base b o q:=(sb.2 b (H.off (by simp) q)).trans (H.base b o q)
  kept p m:=(sb.2 p.1 ((H.apart f.env.locals (by simp)).2 p m)).trans (H.kept p m)
  len:=H.len
  objs i o a e1 e2:=by
    obtain ⟨ob,x,y⟩:=H.objs i o a e1 e2
    exact ⟨ob,(sb.2 a (H.neL (List.mem_cons_self) e2).symm).trans x,y⟩
  frames g m:=by
    have F0:=H.frames f List.mem_cons_self
    rcases List.mem_cons.mp m with rfl | m
    · exact ⟨F0.kind,F0.glob,F0.bns,⟨_,hn,hl⟩,hc⟩
    · refine (H.frames g (List.mem_cons_of_mem _ m)).at fun o q=>(sb.2 _ ?_).trans q
      have nd:=(List.nodup_append.mp H.nodup).1
      rw [List.map_cons,List.nodup_cons] at nd
      exact fun e=>nd.1 (e ▸ List.mem_map_of_mem m)
  nodup:=H.nodup
  apart:=H.apart
noncomputable def StoreR (C:Cx) (f:FrD) (fs:List FrD) (W:Wd) (s:Shared) (r:RS) (s':Shared):Prop:=∃ l os,r=.next l os∧HR C (⟨f.env,l⟩ :: fs) W os s'.heap∧Sm s s'
theorem sat_store (H:HR C (f :: fs) W os s.heap) (nd:(f.env.scope.names.map (·.1)).Nodup) {x:Str} {i:Nat} {k:NameKind} (hx:slotOf x f.env.scope.names 0=some (i,k)) (hk:isOwn k=true) {v:V} {y:Value} (hv:VR W v y)
    (hr:setLoc f.loc os i v ≠ .fail) {E:Value→Shared→Prop}:wpAny (model C.prog C.w) A (storeName f.env x y) (fun _ s'=>StoreR C f fs W s (setLoc f.loc os i v) s') E s:=by
  obtain ⟨_,e1,e2⟩:=slotOf_spec x _ _ _ _ hx
  rw [Nat.sub_zero] at e1
  have F0:=H.frames f List.mem_cons_self
  obtain ⟨m,hn,hl⟩:=F0.ns
  have uniq:∀ i' k',f.env.scope.names[i']?=some (x,k')→i'=i:=by
    intro i' k' e
    have a1:(f.env.scope.names.map (·.1))[i']?=some x:=by rw [List.getElem?_map,e]; rfl
    have a2:(f.env.scope.names.map (·.1))[i]?=some x:=by rw [List.getElem?_map,e1]; rfl
    obtain ⟨p1,q1⟩:=List.getElem?_eq_some_iff.mp a1
    obtain ⟨p2,q2⟩:=List.getElem?_eq_some_iff.mp a2
    exact (List.getElem_inj nd).mp (q1.trans q2.symm)
  unfold setLoc at hr ⊢
  cases el:f.loc[i]? with
  | none=>rw [el] at hr; exact absurd rfl hr
  | some lv =>
    rw [el] at hr
    have loc:(∀ j,lv ≠ .cel j)→wpAny (model C.prog C.w) A (storeName f.env x y) (fun _ s'=>StoreR C f fs W s (.next (f.loc.set i (.val v)) os) s') E s:=by
      intro hne
      have hkl:k=.local:=by
        cases k with
        | «local»=>rfl
        | cell=>obtain ⟨j,e⟩:=F0.cel i x e1 lv el; exact absurd e (hne j)
        | _=>cases hk
      subst hkl
      refine wpAny_storeName_local e2 hn (fun h' hn' sb=>⟨_,_,rfl,?_,⟨rfl,rfl,rfl⟩⟩) (by rw [F0.kind]; rfl)
      refine H.setL sb hn' (fun i' x' k' v' q1 q2=>?_) (fun i' x' q1 v' q2=>?_)
      · by_cases hi:i'=i
        · subst hi
          rw [e1] at q1; cases q1
          rw [List.getElem?_set_self (List.getElem?_eq_some_iff.mp el).1] at q2
          cases q2
          exact ⟨rfl,y,by simp,hv⟩
        · rw [List.getElem?_set_ne (Ne.symm hi)] at q2
          have:=hl i' x' k' v' q1 q2
          cases v' with
          | un=>trivial
          | val w =>
            obtain ⟨a,z,b,c⟩:=this
            refine ⟨a,z,?_,c⟩
            have:x' ≠ x:=fun e=>hi (uniq i' k' (e ▸ q1))
            simp [this,b]
          | cel j=>exact this
      · by_cases hi:i'=i
        · subst hi
          rw [e1] at q1; cases q1
        · rw [List.getElem?_set_ne (Ne.symm hi)] at q2
          exact F0.cel i' x' q1 v' q2
    cases lv with
    | un=>exact loc fun j e=>nomatch e
    | val w=>exact loc fun j e=>nomatch e
    | cel j =>
      dsimp only at hr ⊢
      split at hr
      · rename_i w ej
        obtain ⟨hkk,a,ha,hj⟩:=hl i x k _ e1 el
        have hkc:k=.cell:=by rcases hkk with rfl | rfl<;>first | rfl | cases hk
        subst hkc
        obtain ⟨ob,g,r⟩:=H.objs _ _ _ ej hj
        cases r with
        | cell _ _ xo q hd =>
          refine wpAny_storeName_cell F0.kind e2 ha ⟨_,g,hd⟩ fun h' hc sb=>⟨_,_,rfl,?_,⟨rfl,rfl,rfl⟩⟩
          obtain ⟨o',g',hd'⟩:=hc
          have:=H.upd hj sb g' (ao:=.cell (some v)) (.cell _ _ _ (fun v' ev=>by cases ev; exact ⟨y,rfl,hv⟩) hd')
          exact this
      · exact absurd rfl hr
theorem stored_dict {l:List (List Nat × V)} {es:List (Str × Value)} (r:DR W l es) (hk:(es.map (·.1)).Nodup) {a:List Nat} {v:V} {y:Value} (hv:VR W v y):DR W (putS a v l) (stored es (strV a) y):=by
  have inj:∀ {a b:List Nat},strV a=strV b→a=b:=fun q=>by have:=congrArg (·.cps.toList) q; simpa [strV] using this
  have key:∀ {l:List (List Nat × V)} {es:List (Str × Value)},DR W l es→(es.map (·.1)).Nodup→DR W (putS a v l) (if es.any (fun kv=>kv.1=strV a) then es.map (fun kv=>if kv.1=strV a then (kv.1,y) else kv) else es++[(strV a,y)]):=by
    intro l es r
    induction r with
    | nil=>intro _; exact .cons hv .nil
    | @cons b w l es z hw hr ih =>
      intro hk
      unfold putS
      simp only [List.map_cons,List.nodup_cons] at hk
      by_cases h:a=b
      · subst h
        have h1:(es.map fun kv=>if kv.1=strV a then (kv.1,y) else kv)=es:=by
          refine (List.map_congr_left fun kv hkv=>?_).trans (List.map_id _)
          have:kv.1 ≠ strV a:=fun e=>hk.1 (e ▸ List.mem_map_of_mem hkv)
          simp [this]
        simp [h1]
        exact .cons hv hr
      · have h1:(a == b)=false:=by simpa using h
        have h2:¬ (strV b=strV a):=fun e=>h (inj e).symm
        have:=ih hk.2
        simp only [h1,List.any_cons,h2,decide_false,Bool.false_or,List.map_cons,if_false,List.cons_append,Bool.false_eq_true]
        split
        · rename_i hq; rw [if_pos hq] at this; exact .cons hw this
        · rename_i hq; rw [if_neg hq] at this; exact .cons hw this
  exact key r hk
theorem DR.length {l:List (List Nat × V)} {es:List (Str × Value)} (r:DR W l es):es.length=l.length:=by
  induction r with
  | nil=>rfl
  | cons _ _ ih=>simp [ih]
theorem ER.length {l:List (Nat × V)} {es:List (Str × Value)} (r:ER C W l es):es.length=l.length:=by
  induction r with
  | nil=>rfl
  | cons _ _ _ ih=>simp [ih]
theorem DObj.nodup {prog:Program} {w:World} {K:Type} [DecidableEq K] {knd:KeyKind prog w K} {o:Obj} {kvs:List (K × Value)} (x:DObj knd o kvs):(kvs.map (·.1)).Nodup:=by
  obtain ⟨_,_,_,_,_,_,q⟩:=x; exact q
theorem sat_setItem (H:HR C fs W os s.heap) {o k v:V} {x y z:Value} (ho:VR W o x) (hk:VR W k y) (hv:VR W v z) {l:List LV} (hr:storeItem o k v l os ≠ .fail) {E:Value→Shared→Prop} :
    wpAny (model C.prog C.w) A (setItem x y z) (fun _ s'=>∃ os',storeItem o k v l os=.next l os'∧HR C fs W os' s'.heap∧Sm s s') E s:=by
  obtain ⟨i,ei,hr⟩:=RS.opt_ne hr
  obtain ⟨es,ee,hr⟩:=RS.opt_ne hr
  obtain ⟨kl,ek,hr⟩:=RS.opt_ne hr
  have hz:=ite_ne hr
  obtain ⟨ob,e0,eo⟩:=bindSome ee
  have eq:storeItem o k v l os=.next l (os.set i (.dict (putS kl v es))):=(RS.opt_eq ei).trans ((RS.opt_eq ee).trans ((RS.opt_eq ek).trans (if_pos hz)))
  cases AO.dict_of eo
  cases hk.str? ek
  obtain ⟨a,rfl,ea⟩:=ho.obj? ei
  obtain ⟨ob,g,r⟩:=H.objs _ _ _ e0 ea
  cases r with
  | dict _ kvs _ r q =>
    refine wpAny_setItem_pairs (k:=strV kl) (strKind_is C.prog C.w _ _) (q.at g) (fun h' hd sb=>?_) (by rw [r.length]; simp [sizeLine]; omega)
    obtain ⟨o',g',z'⟩:=DObj.of hd
    exact ⟨_,eq,H.upd ea sb g' (.dict _ _ _ (stored_dict r q.nodup hv) z'),⟨rfl,rfl,rfl⟩⟩
theorem put_small {prog:Program} {w:World} {o:Obj} {es:List (Str × Value)} {name:Str} {z:Value} (q:DObj (strKind prog w) o (stored es name z)) (h:es.length < 100):o.data.pastItsLine=none:=by
  obtain ⟨es',ep',R1,R2,R3,R4,R5⟩:=q
  rw [R2]
  have h1:=R4.length
  rw [Array.length_toList] at h1
  have h2:(stored es name z).length ≤ es.length+1:=by unfold stored; split<;>simp
  exact pastItsLine_dict (by rw [sizeLine_eq,h1]; omega)
theorem noKey {prog:Program} {w:World} {o:Obj} {es:List (Str × Value)} (q:DObj (strKind prog w) o es):∃ es' ep,o.data=.dict es' ep∧es'.any (·.refKey)=false:=by
  obtain ⟨es',ep,R1,R2,R3,R4,R5⟩:=q
  exact ⟨es',ep,R2,by rw [← Array.any_toList]; exact Pairs.noRef R4⟩
theorem set_raw (X:CxOk C) (XK:C.K.In s.heap) {x Ca dx:Addr} {o:Obj} {es:List (Str × Value)} {name:Str} {z:Value} (g:s.heap.get? x=some (instObj Ca dx)) (g2:s.heap.get? dx=some o) (q:DObj (strKind C.prog C.w) o es) (hz:es.length < 100)
    (p2:hasDictIn C.K Ca=true) (p4:findIn C.K (.ref Ca) "__setattr__"=some (some (.builtin "object.__setattr__"))) (p5:plainOver C.K Ca=true) (p6:takerIn C.K Ca name=some none) {Q:Unit→Shared→Prop} {E:Value→Shared→Prop}
    (h:∀ h' t k,Heap.SameBut dx s.heap h'→h'.get? dx=some (Obj.putName name (PyData.keyHash C.w.params name) (.str name t) z o)→Q () { s with heap:=h',toks:=k }):wpAny (model C.prog C.w) A (setAttr (.ref x) name z) Q E s:=by
  have I:InstAt s.heap x (instObj Ca dx) Ca (some o):=instAt g g2
  refine set_plain XK I p4 (osa_open (s:={ s with toks:=s.toks+1 }) XK I p5 p6 fun b=>?_)
  obtain ⟨cd,hc,hd⟩:=any_some p2
  obtain ⟨ees,eep,Q2,cc⟩:=noKey q
  obtain ⟨hp,gg,dr,tk,oss⟩:=s
  refine wpAny_bind (wpAny_pure (wpAny_bind (wpAny_bind (wpAny_loadPart g (wpAny_bind ((looks_clsIn (h:=hp) XK hc).at ?_))))))
  rw [hd]
  refine wpAny_pure (a:=some dx) (wpAny_bind (wpAny_pure (wpAny_bind ?_)))
  unfold nsSet
  refine wpAny_bind (wpAny_bind (wpAny_askSetting (wpAny_pure (wpAny_bind (wpAny_mkText (wpAny_bind (wpAny_loadPart g2 ?_)))))))
  rw [Q2]
  dsimp only
  rw [aRefKeyMayBeTheName_at,cc,Bool.and_false]
  have z':=fun t=>q.put name t z
  exact wpAny_updatePart g2 (wpAny_bind (wpAny_lookBehind (Heap.get?_update_self _ g2 (z' _).free) (put_small (z' _) hz) (wpAny_pure (h _ _ _ (Heap.SameBut.update ..) (Heap.get?_update_self _ g2 (z' _).free)))))
theorem sat_setAttr (X:CxOk C) (hT:TabOk C T F) (H:HR C fs W os s.heap) {o v:V} {x z:Value} {a:Nat} {name:Str} (hn:C.nm[a]?=some name) (ho:VR W o x) (hv:VR W v z) {l:List LV} (hr:storeAttr T o a v l os ≠ .fail) {E:Value→Shared→Prop} :
    wpAny (model C.prog C.w) A (setAttr x name z) (fun _ s'=>∃ os',storeAttr T o a v l os=.next l os'∧HR C fs W os' s'.heap∧Sm s s') E s:=by
  obtain ⟨da,ed,hr⟩:=RS.opt_ne hr
  have hz:=ite_ne hr
  have eq:storeAttr T o a v l os=.next l (os.set da.1 (.attrs (putN a v da.2))):=(RS.opt_eq ed).trans (if_pos hz)
  obtain ⟨c,J,ep,em,eo⟩:=slotAt_spec H ho ed
  cases J with
  | mk i x Ca dx o ei ex q1 q2 g g2 =>
    obtain ⟨o',es,g3,r,q⟩:=H.attrs eo q2
    cases g2.symm.trans g3
    obtain ⟨p1,p2,p3,p4,p5,p6⟩:=hT.own c Ca a name q1 hn ep em
    exact set_raw X (H.kin X) g g2 q (by rw [r.length]; exact hz) p2 p4 p5 p6 fun h' t k sb g'=>⟨_,eq,H.upd q2 sb g' (.attrs _ _ _ (r.put hT.nd q.nodup hn hv) (q.put name t z)),⟨rfl,rfl,rfl⟩⟩
end
section
variable {C:Cx} {T:Tab} {F:Fns} {A:Around} {fs:List FrD} {f:FrD} {W:Wd} {os:List AO} {h:Heap} {s:Shared} {n:Nat}
theorem es_dict0 {pos:Pos} {env:Env}:ES C A fs (eval (.Dict [] [] pos) env) (fun os=>.ok (.obj os.length) (os++[.dict []])):=fun W os s H =>
  Sat.made H (.dict [] [] _ .nil (by
    have:=Heap.DictOf.new (knd:=strKind C.prog C.w) s.heap
    obtain ⟨o,g,z⟩:=DObj.of this
    rw [Heap.get?_push_size _ rfl] at g
    cases g
    exact z)) fun Q E hQ=>wpAny_Dict_empty (hQ _)
theorem es_dict1 {pos p1 p2:Pos} {k1 k2:Nat} {env:Env} {x:Str} {i:Int} (hx:x.cps.toList.length ≤ lim) :
    ES C A fs (eval (.Dict [some (.Constant (.str x) k1 p1)] [.Constant (.int i) k2 p2] pos) env) (fun os=>.ok (.obj os.length) (os++[.dict [(x.cps.toList,.int i)]])):=by
  intro W os s H
  have hxs:x=strV x.cps.toList:=by cases x; rfl
  refine Sat.madeAt (Z:=fun o=>∃ t,DObj (strKind C.prog C.w) o [(x,.int i t)]) H (fun o ⟨t,z⟩=>?_) fun Q E hQ=>?_
  · rw [hxs] at z
    exact .dict _ _ _ (.cons (.int i t) .nil) z
  · refine wpAny_Dict_pairs (knd:=strKind C.prog C.w) (pairs:=[(eval (.Constant (.str x) k1 p1) env,do let y ← eval (.Constant (.int i) k2 p2) env; standAt pos; pure y)]) rfl (by simp) (by simp) ?_
    unfold evalPairs
    refine wpAny_bind (Calls.Constant_str ?_)
    refine wpAny_bind (wpAny_holding (wpAny_bind (wpAny_Constant_int (wpAny_bind (wpAny_standAt (wpAny_pure ?_))))))
    unfold evalPairs
    refine wpAny_bind (wpAny_holding (wpAny_pure (wpAny_pure ?_)))
    refine ⟨[(x,.int i (s.toks+1))],⟨strKind_is C.prog C.w _ _,rfl,trivial⟩,Heap.DictOf.new s.heap,fun h' hd sb=>?_⟩
    obtain ⟨o,g,z⟩:=DObj.of hd
    refine hQ h' _ o (fun b o' e=>(sb.2 b (Nat.ne_of_lt (Heap.lt_size e))).trans (Heap.get?_push_of_some _ e)) g ⟨s.toks+1,?_⟩
    exact z
end
end Mine
end
section
open PySem PySem.W PySem.Calls PyProof.Rows
set_option tactic.hygienic false
namespace Mine
section
variable {C:Cx} {N:Nm} {T:Tab} {F:Fns} {A:Around} {fs:List FrD} {f:FrD} {W:Wd} {os:List AO} {h:Heap} {s:Shared} {n d:Nat}
theorem call_bfm {q:Addr} {x:Str} {t:Tok} {Q:Value→Shared→Prop} {E:Value→Shared→Prop} (g:s.heap.get? q=some bfmObj) (hh:A.handled=none) (hz:x.cps.size ≤ lim)
    (h:∀ h' tk,(∀ b o,s.heap.get? b=some o→h'.get? b=some o)→h'.DictOf (strKind C.prog C.w) s.heap.objs.size (keysOf (x.cps.toList.foldl addKey []))→Q (.ref s.heap.objs.size) { s with heap:=h',toks:=tk }) :
    wpAny (model C.prog C.w) A (call (.ref q) [.str x t]) Q E s:=by
  refine wpAny_call (codeAny_of_tree ?_)
  show wpAny _ A.in1 (callAny (.ref q) ⟨[.str x t],[]⟩) _ _ s
  simp only [callAny]
  refine wpAny_bind (wpAny_load g ?_)
  dsimp only
  rw [if_pos (by decide)]
  show wpAny _ _ (checkBoundCall "dict.fromkeys" ⟨[.type "dict",.str x t],[]⟩ >>= fun _=>again (.builtin "dict.fromkeys" ⟨[.type "dict",.str x t],[]⟩)) _ _ _
  refine wpAny_bind (wpAny_of_eq (checkBound_fromkeys x t) (wpAny_pure ⟨plainId_quiet plain_fromkeys _,codeAny_builtin entry_fromkeys ?_⟩))
  rw [Around.under_plainId plain_fromkeys _]
  exact fromkeys_body (R:=fun r s'=>match r with | .ok (.ret v)=>Q v s' | .ok _=>False | .error e=>E e s') hh hz h
theorem callKeys {q:Addr} {vs:List V} {xs:List Value} (hh:A.handled=none ∨ T.hd=true) (H:HR C fs W os s.heap) (g:s.heap.get? q=some bfmObj) (hv:VRs W vs xs):Sat C A (call (.ref q) ([]++xs)) VR fs W (match T.hd&&BI.fromkeys.loops with
      | true=>.fail
      | false=>biOp os .fromkeys vs) s:=by
  cases e:T.hd with
  | true=>exact Sat.fail
  | false =>
    have hn:A.handled=none:=hh.elim id fun h=>noTrue (e.symm.trans h)
    cases vs with
    | nil=>exact Sat.fail
    | cons v r=>cases r with
      | cons _ _=>exact Sat.fail
      | nil =>
        refine Sat.opt fun x ex=>?_
        cases hv.one rfl with
        | mk y hy=>cases hy.str? ex with
          | mk t hx =>
            refine Sat.madeAt (Z:=fun o=>DObj (strKind C.prog C.w) o (keysOf (x.foldl addKey []))) H (fun o e=>.keys _ _ e) fun Q E hQ=>?_
            refine call_bfm g hn hx fun h' tk k hd=>?_
            obtain ⟨o,g,z⟩:=DObj.of hd
            exact hQ h' tk o k g z
theorem with_fromkeys (hh:A.handled=none ∨ T.hd=true) {pp:Pos} {a:Expr} {c:List AO→R V} (h:ES C A fs (eval a f.env) c) {q:Addr} (H:HR C fs W os s.heap) (k:(q,bfmObj) ∈ W.kp) :
    Sat C A (callWith pp (.ref q) [] ([a].map fun e=>(false,eval e f.env)) []) VR fs W (((c os).bind fun v os=>(.ok [v] os:R (List V))).bind fun vs os=>match T.hd&&BI.fromkeys.loops with
      | true=>.fail
      | false=>biOp os .fromkeys vs) s:=by
  have hl:LS C A fs ([a].map fun e=>(false,eval e f.env)) (fun os=>(c os).bind fun v os=>(.ok [v] os:R (List V))):=ls_cons h ls_nil
  refine sat_callWithP (P:=fun h=>h.get? q=some bfmObj) (fun h g=>⟨.machine,.inr (.inl rfl),fun A Q E s k q=>?_⟩) (fun W' os' s' le H'=>H'.kept _ (le.kp _ k)) hl H fun W' vs xs os' s' le hv H'=>callKeys hh H' (H'.kept _ (le.kp _ k)) hv
  unfold keeperOf
  exact wpAny_bind (wpAny_load (k _ _ g) (wpAny_pure q))
theorem es_fromkeys (X:CxOk C) (hG:GlobOk C N T F) (hA:BOk A d) (hh:A.handled=none ∨ T.hd=true) (hm:f ∈ fs) {p apos pos:Pos} {a:Expr} {c:List AO→R V} (hs:isStar a=false) (hg:glob f.env.scope.names "dict"=true) (hp:(apos.endLine == pos.line)=true)
    (h:ES C A fs (eval a f.env) c) :
    ES C A fs (eval (.Call (.Attribute (.Name "dict" p) "fromkeys" apos) [a] [] pos) f.env) (fun os=>((c os).bind fun v os=>(.ok [v] os:R (List V))).bind fun vs os=>match T.hd&&BI.fromkeys.loops with
      | true=>.fail
      | false=>biOp os .fromkeys vs):=by
  intro W os s H hf
  rw [arm_eval_Call,backTo_star (show anyStar [a]=false by unfold anyStar; rw [List.any_cons,hs]; rfl),attrBase rfl]
  refine wpAny_bind (wp_global X H hm hg (by decide) (.inr hG.dict) ?_)
  refine wpAny_bind (wpAny_standAt ?_)
  unfold methodCall
  rw [methForm (show [a].length ≤ 20 by show 1 ≤ 20; decide)]
  refine wpAny_bind (wpAny_holding ?_)
  unfold calleeOf
  simp only [if_true]
  refine get_fromkeys (H.kin X) fun tk=>?_
  dsimp only
  have tail:=fun pp:Pos=>with_fromkeys (T:=T) (f:=f) (s:={ s with heap:=s.heap.push bfmObj,toks:=tk }) hh (pp:=pp) h (H.keep bfmObj rfl) (.head _) hf
  unfold methodCallPos
  rw [hp]
  exact wpAny_bind (wpAny_pure (wpAny_mono (tail _) (fun _ _=>PR.from (leK W _) ⟨rfl,rfl,rfl⟩) fun _ _=>PX.from (leK W _) ⟨rfl,rfl,rfl⟩))
end
end Mine
end
section
open PySem PySem.W PySem.Calls PyProof.Rows
set_option backward.match.sparseCases false
set_option tactic.hygienic false
namespace Mine
section
variable {C:Cx} {N:Nm} {T:Tab} {F:Fns} {cf:Nat→List V→List AO→R V} {K:Nat} {A:Around} {fs:List FrD} {f:FrD} {W:Wd} {os:List AO} {h:Heap} {s:Shared} {n d:Nat}
theorem ls_exs {l:List LV} {env:Env} {g:Expr→Ex}:∀ {es:List Expr},(∀ e ∈ es,ES C A fs (eval e env) (evalE T cf K l false (g e)))→LS C A fs (es.map fun e=>(false,eval e env)) (evalEs T cf K l (exsMap g es))
  | [],_=>ls_nil
  | e :: es,h=>ls_cons (h e (.head _)) (ls_exs fun e' m=>h e' (.tail _ m))
theorem evalBool_false {l:List LV} {isAnd:Bool} {g:Expr→Ex}:∀ (es:List Expr) (os:List AO),evalBool T cf K l false isAnd (exsMap g es) os=boolE isAnd (es.map fun e=>evalE T cf K l false (g e)) os
  | [],os=>rfl
  | [e],os=>rfl
  | e :: e2 :: es,os=>by
    show (evalE T cf K l false (g e) os).bind _=(evalE T cf K l false (g e) os).bind _
    congr 1
    funext v os
    cases truth os v with
    | none=>rfl
    | some b =>
      show (if b == isAnd then evalBool T cf K l false isAnd (exsMap g (e2 :: es)) os else _)=_
      rw [evalBool_false (e2 :: es) os]
theorem evalBool_true {l:List LV} {isAnd:Bool} {g:Expr→Ex}:∀ (es:List Expr) (os:List AO),evalBool T cf K l true isAnd (exsMap g es) os=boolT isAnd (es.map fun e=>evalE T cf K l true (g e)) os
  | [],os=>rfl
  | e :: es,os=>by
    show (evalE T cf K l true (g e) os).bool (fun b s=>if b == isAnd then evalBool T cf K l true isAnd (exsMap g es) s else .ok (.bool b) s)=(evalE T cf K l true (g e) os).bool _
    congr 1
    funext b os
    rw [evalBool_true es os]
theorem all2_es {l:List LV} {env:Env} {g:Expr→Ex}:∀ {es:List Expr},(∀ e ∈ es,ES C A fs (eval e env) (evalE T cf K l false (g e)))→All2 (ES C A fs) (evalEach es env) (es.map fun e=>evalE T cf K l false (g e))
  | [],_=>.nil
  | e :: es,h=>.cons (h e (.head _)) (all2_es fun e' m=>h e' (.tail _ m))
theorem all2_ts {l:List LV} {env:Env} {g:Expr→Ex}:∀ {es:List Expr},(∀ e ∈ es,TS C A fs (isTrue e env (eval e env)) (evalE T cf K l true (g e)))→All2 (fun e c=>TS C A fs (isTrue e env (eval e env)) c) es (es.map fun e=>evalE T cf K l true (g e))
  | [],_=>.nil
  | e :: es,h=>.cons (h e (.head _)) (all2_ts fun e' m=>h e' (.tail _ m))
end
inductive IO (W:Wd):Src→Nat→Obj→Prop
  | ascii (x:List Nat) (t:Tok) (j:Nat) (o:Obj):o.cls=.type "str_ascii_iterator"→o.data=.fields #[.str (strV x) t,.int j 0]→IO W (.fixed (x.map fun c=>.str [c])) j o
  | wide (x:List Nat) (t:Tok) (j:Nat) (o:Obj):o.cls=.type "str_iterator"→o.data=.fields #[.str (strV x) t,.int j 0]→IO W (.fixed (x.map fun c=>.str [c])) j o
  | tup (vs:List V) (a:Addr) (xs:List Value) (n j:Nat) (o:Obj):(a,tupOf xs n) ∈ W.kp→VRs W vs xs→o.cls=.type "tuple_iterator"→o.data=.fields #[.ref a,.int j 0]→IO W (.fixed vs) j o
  | rng (n j:Nat) (o:Obj):j ≤ n→o={ cls:=.type "range_iterator",dict:=none,data:=.fields #[rawInt (j:Int),rawInt ((n:Int) - j),rawInt 1],slots:=#[] }→IO W (.fixed ((List.range n).map fun (i:Nat)=>.int i)) j o
  | live (i:Nat) (l:Addr) (j:Nat) (o:Obj):W.φ[i]?=some l→o.cls=.type "list_iterator"→o.data=.fields #[.ref l,.int j 0]→IO W (.live i) j o
theorem IO.mono {W W':Wd} (h:W.le W') {src:Src} {j:Nat} {o:Obj} (x:IO W src j o):IO W' src j o:=by
  cases x with
  | ascii x t j o a b=>exact .ascii _ _ _ _ a b
  | wide x t j o a b=>exact .wide _ _ _ _ a b
  | tup vs a xs n j o m r c d=>exact .tup _ _ _ _ _ _ (h.kp _ m) (r.mono h) c d
  | rng n j o a b=>exact .rng _ _ _ a b
  | live i l j o e c d=>exact .live _ _ _ _ (h.at e) c d
section
variable {C:Cx} {A:Around} {fs:List FrD} {W:Wd} {os:List AO} {h:Heap} {s:Shared} {n:Nat}
structure Hid (C:Cx) (fs:List FrD) (W:Wd) (it:Addr):Prop where
  fr:it ∉ fs.map (·.env.locals)++W.φ
  base:C.h₀.get? it=none
  kp:∀ p ∈ W.kp,p.1 ≠ it
theorem HR.hid (H:HR C fs W os h) {it:Addr} (Z:Hid C fs W it) {h':Heap} (k:∀ b o,b ≠ it→h.get? b=some o→h'.get? b=some o):HR C fs W os h' where
  base b o e:=k b o (fun q=>by subst q; rw [Z.base] at e; cases e) (H.base b o e)
  kept p m:=k _ _ (Z.kp p m) (H.kept p m)
  len:=H.len
  objs i o a e1 e2:=let ⟨ob,x,y⟩:=H.objs i o a e1 e2; ⟨ob,k _ _ (fun q=>Z.fr (q ▸ List.mem_append_right _ (List.mem_of_getElem? e2))) x,y⟩
  frames f m:=(H.frames f m).at fun o e=>k _ _ (fun q=>Z.fr (q ▸ List.mem_append_left _ (List.mem_map_of_mem m))) e
  nodup:=H.nodup
  apart:=H.apart
theorem Hid.fresh (H:HR C fs W os h) {it:Addr} (hi:h.objs.size ≤ it):Hid C fs W it where
  fr m:=Nat.lt_irrefl _ (Nat.lt_of_lt_of_le (H.lt m) hi)
  base:=by
    cases q:C.h₀.get? it with
    | none=>rfl
    | some o=>exact absurd (Heap.lt_size (H.base _ _ q)) (Nat.not_lt.mpr hi)
  kp p m:=Nat.ne_of_lt (Nat.lt_of_lt_of_le (H.keptLt m) hi)
noncomputable def NextOk (C:Cx) (fs:List FrD) (W:Wd) (os:List AO) (s:Shared) (it:Addr) (src:Src) (j:Nat) (r:Option V) (x:Option Value) (s':Shared):Prop:=HR C fs W os s'.heap∧Sm s s'∧match r with
      | none=>x=none
      | some v=>∃ y o',x=some y∧VR W v y∧s'.heap.get? it=some o'∧IO W src (j+1) o'
theorem NextOk.fin {src:Src} {j:Nat} {it:Addr} {h':Heap} (H:HR C fs W os s.heap) (Z:Hid C fs W it) (k:Heap.ExtBut it s.heap h'):NextOk C fs W os s it src j none none { s with heap:=h' }:=⟨H.hid Z k,⟨rfl,rfl,rfl⟩,rfl⟩
theorem NextOk.item {src:Src} {j:Nat} {it:Addr} {h':Heap} {v:V} {y:Value} {o':Obj} {tk:Nat} (H:HR C fs W os s.heap) (Z:Hid C fs W it) (sb:Heap.SameBut it s.heap h') (hv:VR W v y) (g:h'.get? it=some o') (I:IO W src (j+1) o') :
    NextOk C fs W os s it src j (some v) (some y) { s with heap:=h',toks:=tk } :=
  ⟨H.hid Z fun b o n e=>(sb.2 b n).trans e,⟨rfl,rfl,rfl⟩,y,o',rfl,hv,g,I⟩
theorem ch_lim {c:Nat}:[c].length ≤ lim:=show 1 ≤ lim by decide
theorem strAt (x:List Nat) (j:Nat):(strV x).cps[j]?=x[j]?:=by simp [strV]
section
variable {j:Nat} {it:Addr} {o:Obj} {r:Option V} {E:Value→Shared→Prop}
theorem next_ascii {x:List Nat} {t:Tok} (hh:A.handled=none) (H:HR C fs W os s.heap) (Z:Hid C fs W it) (hit:s.heap.IsStrIter it "str_ascii_iterator" (strV x) t j) (e:(x.map fun c=>V.str [c])[j]?=r) :
    wpAny (model C.prog C.w) A (pyNext (.ref it)) (NextOk C fs W os s it (.fixed (x.map fun c=>.str [c])) j r) E s:=by
  rw [List.getElem?_map] at e
  cases hx:x[j]? with
  | none =>
    rw [← e,hx]
    exact wpAny_pyNext_ascii_end hh hit ((strAt x j).trans hx) fun h' k=>NextOk.fin H Z k
  | some ch =>
    rw [← e,hx]
    refine wpAny_pyNext_ascii_item hit ((strAt x j).trans hx) fun h' hit' sb=>?_
    obtain ⟨o',g',c',d'⟩:=hit'
    exact NextOk.item H Z sb (.str [ch] _ ch_lim) g' (.ascii _ _ _ _ c' d')
theorem next_wide {x:List Nat} {t:Tok} (hh:A.handled=none) (H:HR C fs W os s.heap) (Z:Hid C fs W it) (hit:s.heap.IsStrIter it "str_iterator" (strV x) t j) (e:(x.map fun c=>V.str [c])[j]?=r) :
    wpAny (model C.prog C.w) A (pyNext (.ref it)) (NextOk C fs W os s it (.fixed (x.map fun c=>.str [c])) j r) E s:=by
  rw [List.getElem?_map] at e
  cases hx:x[j]? with
  | none =>
    rw [← e,hx]
    exact wpAny_pyNext_wide_end hh hit ((strAt x j).trans hx) fun h' k=>NextOk.fin H Z k
  | some ch =>
    rw [← e,hx]
    refine wpAny_pyNext_wide_item hit ((strAt x j).trans hx) fun h' hit' sb=>?_
    obtain ⟨o',g',c',d'⟩:=hit'
    exact NextOk.item H Z sb (.str [ch] _ ch_lim) g' (.wide _ _ _ _ c' d')
theorem next_tup {vs:List V} {xs:List Value} {a:Addr} {n:Nat} (hh:A.handled=none) (H:HR C fs W os s.heap) (Z:Hid C fs W it) (hit:s.heap.IsTupleIter it a j) (m:(a,tupOf xs n) ∈ W.kp) (hv:VRs W vs xs) (e:vs[j]?=r) :
    wpAny (model C.prog C.w) A (pyNext (.ref it)) (NextOk C fs W os s it (.fixed vs) j r) E s:=by
  have ht:s.heap.IsTuple a xs.toArray:=isTuple_of (H.kept _ m)
  rw [← e]
  cases hx:vs[j]? with
  | none=>exact wpAny_pyNext_tuple_end hh hit ht (by rw [List.getElem?_toArray]; exact List.getElem?_eq_none_iff.mpr (hv.length ▸ List.getElem?_eq_none_iff.mp hx)) fun h' k=>NextOk.fin H Z k
  | some v =>
    obtain ⟨y,e1,e2⟩:=hv.get hx
    refine wpAny_pyNext_tuple_item hit ht (x:=y) (by rw [List.getElem?_toArray]; exact e1) fun h' hit' sb=>?_
    obtain ⟨o',g',c',d'⟩:=hit'
    exact NextOk.item H Z sb e2 g' (.tup _ _ _ _ _ _ m hv c' d')
theorem next_live {vs:List V} {i:Nat} {l:Addr} (hh:A.handled=none) (H:HR C fs W os s.heap) (Z:Hid C fs W it) (hit:s.heap.IsListIter it l j) (ei:os[i]?=some (.list vs)) (el:W.φ[i]?=some l) (e:vs[j]?=r) :
    wpAny (model C.prog C.w) A (pyNext (.ref it)) (NextOk C fs W os s it (.live i) j r) E s:=by
  obtain ⟨xs,n,gl,hv,lx⟩:=H.isList ei el
  rw [← e]
  cases hx:vs[j]? with
  | none=>exact wpAny_pyNext_list_end hh hit (isList_of gl) (by rw [List.getElem?_toArray]; exact List.getElem?_eq_none_iff.mpr (hv.length ▸ List.getElem?_eq_none_iff.mp hx)) fun h' k=>NextOk.fin H Z k
  | some v =>
    obtain ⟨y,e1,e2⟩:=hv.get hx
    refine wpAny_pyNext_list_item hit (isList_of gl) (x:=y) (by rw [List.getElem?_toArray]; exact e1) fun h' hit' sb=>?_
    obtain ⟨o',g',c',d'⟩:=hit'
    exact NextOk.item H Z sb e2 g' (.live _ _ _ _ el c' d')
theorem next_rng {n:Nat} (hh:A.handled=none) (H:HR C fs W os s.heap) (Z:Hid C fs W it) (hit:IsRangeIter s.heap it (j:Int) ((n:Int) - j) 1) (hj:j ≤ n) (e:((List.range n).map fun (i:Nat)=>V.int i)[j]?=r) :
    wpAny (model C.prog C.w) A (pyNext (.ref it)) (NextOk C fs W os s it (.fixed ((List.range n).map fun (i:Nat)=>.int i)) j r) E s:=by
  rw [List.getElem?_map] at e
  rw [← e]
  by_cases hlt:j < n
  · rw [List.getElem?_range hlt]
    refine wpAny_pyNext_range_item hit (by omega) fun h' hit' sb=>NextOk.item H Z sb (.int _ _) hit' (.rng n (j+1) _ hlt ?_)
    rw [show (n:Int) - j - 1=(n:Int) - ((j+1:Nat):Int) by omega]
    rfl
  · rw [List.getElem?_eq_none (by rw [List.length_range]; exact Nat.le_of_not_lt hlt)]
    exact wpAny_pyNext_range_end hh hit (by omega) fun h' k=>NextOk.fin H Z k
theorem sat_next (hh:A.handled=none) {src:Src} (H:HR C fs W os s.heap) (Z:Hid C fs W it) (g:s.heap.get? it=some o) (I:IO W src j o) (e:src.at os j=some r) :
    wpAny (model C.prog C.w) A (pyNext (.ref it)) (NextOk C fs W os s it src j r) E s:=by
  cases I with
  | ascii x t _ _ c d=>exact next_ascii hh H Z ⟨o,g,c,d⟩ (Option.some.inj e)
  | wide x t _ _ c d=>exact next_wide hh H Z ⟨o,g,c,d⟩ (Option.some.inj e)
  | tup vs a xs n _ _ m r c d=>exact next_tup hh H Z ⟨o,g,c,d⟩ m r (Option.some.inj e)
  | rng n _ _ hj eo=>exact next_rng hh H Z (show s.heap.get? it=_ from eo ▸ g) hj (Option.some.inj e)
  | live i l _ _ el c d =>
    have e:(match os[i]? with | some (.list vs)=>some vs[j]? | _=>none)=some r:=e
    cases ei:os[i]? with
    | none=>rw [ei] at e; exact noSome e
    | some ao =>
      rw [ei] at e
      cases ao with
      | list vs=>exact next_live hh H Z ⟨o,g,c,d⟩ ei el (Option.some.inj e)
      | _=>exact noSome e
end
end
end Mine
end
section
open PySem PySem.W PySem.Calls PyProof.Rows
set_option backward.match.sparseCases false
namespace Mine
section
variable {C:Cx} {A:Around} {fs:List FrD} {W:Wd} {os:List AO} {h:Heap} {s:Shared} {n:Nat}
theorem sat_iter {v:V} {x:Value} {src:Src} (hv:VR W v x) (H:HR C fs W os s.heap) (e:srcOf os v=some src) {E:Value→Shared→Prop} :
    wpAny (model C.prog C.w) A (pyIter x) (fun y s'=>∃ it o,y=.ref it∧HR C fs W os s'.heap∧Sm s s'∧Hid C fs W it∧s'.heap.get? it=some o∧IO W src 0 o) E s:=by
  have hk:∀ (o:Obj) b o',s.heap.get? b=some o'→(s.heap.push o).get? b=some o':=fun o b o' e=>Heap.get?_push_of_some _ e
  cases hv with
  | str l t hl =>
    cases e
    cases ha:(strV l).cps.all (· < 128) with
    | true=>exact wpAny_pyIter_ascii ha ⟨_,_,rfl,H.keeps (hk _),⟨rfl,rfl,rfl⟩,Hid.fresh H (Nat.le_refl _),Heap.get?_push_size _ rfl,.ascii l t 0 _ rfl rfl⟩
    | false=>exact wpAny_pyIter_wide ha ⟨_,_,rfl,H.keeps (hk _),⟨rfl,rfl,rfl⟩,Hid.fresh H (Nat.le_refl _),Heap.get?_push_size _ rfl,.wide l t 0 _ rfl rfl⟩
  | tup vs a xs n m r q =>
    cases e
    exact wpAny_pyIter_tuple (isTuple_of (H.kept _ m)) ⟨_,_,rfl,H.keeps (hk _),⟨rfl,rfl,rfl⟩,Hid.fresh H (Nat.le_refl _),Heap.get?_push_size _ rfl,.tup vs a xs n 0 _ m r rfl rfl⟩
  | obj i a ea =>
    simp only [srcOf] at e
    split at e
    · rename_i vs e0
      cases e
      obtain ⟨ys,n,g,r,lx⟩:=H.isList e0 ea
      exact wpAny_pyIter_list (isList_of g) ⟨_,_,rfl,H.keeps (hk _),⟨rfl,rfl,rfl⟩,Hid.fresh H (Nat.le_refl _),Heap.get?_push_size _ rfl,.live i a 0 _ ea rfl rfl⟩
    · cases e
  | rng k a t u v' m =>
    simp only [srcOf] at e
    split at e<;>try cases e
    rename_i hk0
    simp only [Bool.and_eq_true,decide_eq_true_eq] at hk0
    obtain ⟨h0,h1⟩:=hk0
    have hr:IsRange s.heap a 0 k 1 t u v':=H.kept _ m
    have hsm:Builtin.Range.small 0 k 1=true:=small_one (by omega) (by omega) (by omega) (by omega)
    refine wpAny_pyIter_range hr hsm ?_
    have hsz:Builtin.Range.rangeSize 0 k 1=k:=by unfold Builtin.Range.rangeSize; simp; omega
    rw [hsz]
    refine ⟨_,_,rfl,H.keeps (hk _),⟨rfl,rfl,rfl⟩,Hid.fresh H (Nat.le_refl _),Heap.get?_push_size _ rfl,.rng k.toNat 0 _ (Nat.zero_le _) ?_⟩
    have:((k.toNat:Nat):Int)=k:=by omega
    simp [this]
  | _=>cases e
end
end Mine
end
section
open PySem PySem.W PySem.Calls PyProof.Rows
set_option backward.match.sparseCases false
set_option tactic.hygienic false
namespace Mine
noncomputable def Used (o:Obj):Prop:=o.cls=.type "tuple" ∨ o.cls=.type "list" ∨ o.cls=.type "range" ∨ o.cls=.type "ValueError"
theorem VR.shed2 {W W':Wd} (h:W.φ=W'.φ) (k:∀ p ∈ W.kp,Used p.2→p ∈ W'.kp):(∀ {v x},VR W v x→VR W' v x)∧∀ {vs xs},VRs W vs xs→VRs W' vs xs :=
  VR.both .none .bool .int .str .typ (fun n a t u v m=>.rng n a t u v (k _ m (.inr (.inr (.inl rfl))))) (fun vs a xs n m _ q i=>.tup vs a xs n (k _ m (.inl rfl)) i q) (fun vs a xs n m _ q i=>.lst vs a xs n (k _ m (.inr (.inl rfl))) i q)
    (fun m e r=>r W' fun p m c=>k p m (c.elim (fun c=>.inr (.inr (.inr c))) .inl)) (fun i a e=>.obj i a (h ▸ e)) .nil fun _ _ _ _ a b=>.cons a b
theorem VR.shed {W W':Wd} (h:W.φ=W'.φ) (k:∀ p ∈ W.kp,Used p.2→p ∈ W'.kp) {v:V} {x:Value} (r:VR W v x):VR W' v x:=(VR.shed2 h k).1 r
theorem VRs.shed {W W':Wd} (h:W.φ=W'.φ) (k:∀ p ∈ W.kp,Used p.2→p ∈ W'.kp) {vs:List V} {xs:List Value} (r:VRs W vs xs):VRs W' vs xs:=(VR.shed2 h k).2 r
theorem ER.shed {C:Cx} {W W':Wd} (h:W.φ=W'.φ) (k:∀ p ∈ W.kp,Used p.2→p ∈ W'.kp) {l:List (Nat × V)} {es:List (Str × Value)} (x:ER C W l es):ER C W' l es:=by
  induction x with
  | nil=>exact .nil
  | cons a b _ ih=>exact .cons a (b.shed h k) ih
theorem DR.shed {W W':Wd} (h:W.φ=W'.φ) (k:∀ p ∈ W.kp,Used p.2→p ∈ W'.kp) {l:List (List Nat × V)} {es:List (Str × Value)} (x:DR W l es):DR W' l es:=by
  induction x with
  | nil=>exact .nil
  | cons b _ ih=>exact .cons (b.shed h k) ih
theorem OR.shed {C:Cx} {W W':Wd} (h:W.φ=W'.φ) (k:∀ p ∈ W.kp,Used p.2→p ∈ W'.kp) {a:AO} {o:Obj} (x:OR C W a o):OR C W' a o:=by
  cases x with
  | list vs xs n r q=>exact .list _ _ _ (r.shed h k) q
  | inst c d Ca dx a b=>exact .inst _ _ _ _ a (h ▸ b)
  | attrs l es o r q=>exact .attrs _ _ _ (r.shed h k) q
  | deque vs xs st r q=>exact .deque _ _ _ (r.shed h k) q
  | dict l es o r q=>exact .dict _ _ _ (r.shed h k) q
  | keys l o q=>exact .keys _ _ q
  | ords l o q=>exact .ords _ _ q
  | cell v o x r e=>exact .cell _ _ x (fun v' q=>let ⟨y,a,b⟩:=r v' q; ⟨y,a,b.shed h k⟩) e
theorem FR.shed {W W':Wd} (h:W.φ=W'.φ) (k:∀ p ∈ W.kp,Used p.2→p ∈ W'.kp) {hp:Heap} {f:FrD} (r:FR W hp f):FR W' hp f :=
  ⟨r.kind,r.glob,r.bns,let ⟨m,a,b⟩:=r.ns; ⟨m,a,fun i x q v e1 e2=>by
    have:=b i x q v e1 e2
    cases v with
    | un=>trivial
    | val v=>exact ⟨this.1,let ⟨y,a,b⟩:=this.2; ⟨y,a,b.shed h k⟩⟩
    | cel j=>exact ⟨this.1,let ⟨a,b,c⟩:=this.2; ⟨a,b,h ▸ c⟩⟩⟩,r.cel⟩
section
variable {C:Cx} {A:Around} {fs:List FrD} {f:FrD} {W:Wd} {os:List AO} {h:Heap} {s:Shared} {n:Nat}
noncomputable abbrev Wd.off (W:Wd) (it:Addr):Wd:=⟨W.φ,W.kp.filter fun p=>p.1 != it⟩
theorem offK {it:Addr} {o:Obj} (H:HR C fs W os h) (g:h.get? it=some o) (ho:¬ Used o):∀ p ∈ W.kp,Used p.2→p ∈ (W.off it).kp:=by
  intro p m u
  refine List.mem_filter.mpr ⟨m,?_⟩
  rw [bne_iff_ne]
  intro e
  have:=H.kept p m
  rw [e,g] at this
  cases this
  exact ho u
theorem HR.hold (H:HR C fs W os h) {it:Addr} {o:Obj} (Z:Hid C fs W it) (g:h.get? it=some o):HR C fs ⟨W.φ,(it,o) :: W.kp⟩ os h where
  base:=H.base
  kept p m:=by
    rcases List.mem_cons.mp m with rfl | m
    · exact g
    · exact H.kept p m
  len:=H.len
  objs i o a e1 e2:=let ⟨ob,x,y⟩:=H.objs i o a e1 e2; ⟨ob,x,OR.mono (leK W _) y⟩
  frames f m:=(H.frames f m).mono (leK W _)
  nodup:=H.nodup
  apart a m:=⟨(H.apart a m).1,fun p hp=>by
    rcases List.mem_cons.mp hp with rfl | hp
    · intro e; dsimp only at e; subst e; exact Z.fr m
    · exact (H.apart a m).2 p hp⟩
theorem HR.unhold (H:HR C fs W os h) {it:Addr} {o:Obj} (g:h.get? it=some o) (ho:¬ Used o):HR C fs (W.off it) os h where
  base:=H.base
  kept p m:=H.kept p (List.mem_filter.mp m).1
  len:=H.len
  objs i o' a e1 e2:=let ⟨ob,x,y⟩:=H.objs i o' a e1 e2; ⟨ob,x,OR.shed (W:=W) (W':=W.off it) rfl (offK H g ho) y⟩
  frames f m:=FR.shed (W:=W) (W':=W.off it) rfl (offK H g ho) (H.frames f m)
  nodup:=H.nodup
  apart a m:=⟨(H.apart a m).1,fun p hp=>(H.apart a m).2 p (List.mem_filter.mp hp).1⟩
theorem Hid.unhold (H:HR C fs W os h) {it:Addr} {o:Obj} (m:(it,o) ∈ W.kp) (hb:C.h₀.get? it=none):Hid C fs (W.off it) it where
  fr q:=(H.apart it q).2 _ m rfl
  base:=hb
  kp p q:=by have:=(List.mem_filter.mp q).2; exact (bne_iff_ne.mp this)
theorem le_off {W':Wd} {it:Addr} (le:W.le W') (k:∀ p ∈ W.kp,p.1 ≠ it):W.le (W'.off it):=⟨le.φ,fun p m=>List.mem_filter.mpr ⟨le.kp p m,bne_iff_ne.mpr (k p m)⟩⟩
theorem HR.pushF (H:HR C fs W os h) {h':Heap} (Z:Hid C fs W f.env.locals) (k:∀ b o,h.get? b=some o→h'.get? b=some o) (r:FR W h' f):HR C (f :: fs) W os h' where
  base b o e:=k b o (H.base b o e)
  kept p m:=k _ _ (H.kept p m)
  len:=H.len
  objs i o a e1 e2:=let ⟨ob,x,y⟩:=H.objs i o a e1 e2; ⟨ob,k _ _ x,y⟩
  frames g m:=by
    rcases List.mem_cons.mp m with rfl | m
    · exact r
    · exact (H.frames g m).at (k _)
  nodup:=by
    show (f.env.locals :: (fs.map (·.env.locals)++W.φ)).Nodup
    exact List.nodup_cons.mpr ⟨Z.fr,H.nodup⟩
  apart a m:=by
    have m:a ∈ f.env.locals :: (fs.map (·.env.locals)++W.φ):=m
    rcases List.mem_cons.mp m with rfl | m
    · exact ⟨Z.base,Z.kp⟩
    · exact H.apart a m
theorem HR.popF (H:HR C (f :: fs) W os h):HR C fs W os h where
  base:=H.base
  kept:=H.kept
  len:=H.len
  objs:=H.objs
  frames g m:=H.frames g (List.mem_cons_of_mem _ m)
  nodup:=(List.nodup_cons.mp (show (f.env.locals :: (fs.map (·.env.locals)++W.φ)).Nodup from H.nodup)).2
  apart a m:=H.apart a (show a ∈ f.env.locals :: (fs.map (·.env.locals)++W.φ) from List.mem_cons_of_mem _ m)
theorem HR.popHid (H:HR C (f :: fs) W os h):Hid C fs W f.env.locals where
  fr:=(List.nodup_cons.mp (show (f.env.locals :: (fs.map (·.env.locals)++W.φ)).Nodup from H.nodup)).1
  base:=(H.apart f.env.locals (by simp)).1
  kp:=(H.apart f.env.locals (by simp)).2
theorem HR.swap {g:FrD} (H:HR C (f :: g :: fs) W os h):HR C (g :: f :: fs) W os h where
  base:=H.base
  kept:=H.kept
  len:=H.len
  objs:=H.objs
  frames x m:=H.frames x (by
    rcases List.mem_cons.mp m with rfl | m
    · exact .tail _ (.head _)
    · rcases List.mem_cons.mp m with rfl | m
      · exact .head _
      · exact .tail _ (.tail _ m))
  nodup:=by
    have hp:(f.env.locals :: g.env.locals :: (fs.map (·.env.locals)++W.φ)).Perm (g.env.locals :: f.env.locals :: (fs.map (·.env.locals)++W.φ)):=.swap _ _ _
    exact hp.nodup_iff.mp H.nodup
  apart a m:=H.apart a (by
    have hp:(f.env.locals :: g.env.locals :: (fs.map (·.env.locals)++W.φ)).Perm (g.env.locals :: f.env.locals :: (fs.map (·.env.locals)++W.φ)):=.swap _ _ _
    exact hp.mem_iff.mpr m)
theorem HR.forget (H:HR C (f :: fs) W os h) {l:List LV} (hl:∀ (i:Nat) (v:LV),l[i]?=some v→f.loc[i]?=some v ∨ v=.un)
    (hc:∀ (i:Nat) (x:Str),f.env.scope.names[i]?=some (x,.cell)→∀ v:LV,l[i]?=some v→∃ j,v=.cel j):HR C (⟨f.env,l⟩ :: fs) W os h where
  base:=H.base
  kept:=H.kept
  len:=H.len
  objs:=H.objs
  frames g m:=by
    rcases List.mem_cons.mp m with rfl | m
    · have r:=H.frames f List.mem_cons_self
      obtain ⟨m,e1,e2⟩:=r.ns
      refine ⟨r.kind,r.glob,r.bns,⟨m,e1,fun i x k v q1 q2=>?_⟩,hc⟩
      rcases hl i v q2 with q | rfl
      · exact e2 i x k v q1 q
      · trivial
    · exact H.frames g (List.mem_cons_of_mem _ m)
  nodup:=H.nodup
  apart:=H.apart
theorem closureFor_some {scope:Scope} {env:Env} (hx:∀ x,(x,NameKind.free) ∈ scope.names→∃ a,env.cells.lookup x=some a) :
    ∃ cl,closureFor scope env=pure cl∧∀ x,(x,NameKind.free) ∈ scope.names→cl.lookup x=env.cells.lookup x:=by
  have key:∀ (g:Str × NameKind→List (Str × Addr)→Sem (ForInStep (List (Str × Addr)))),(∀ n k c,g (n,k) c=if k == .free then (do let a ← cellOf env n; pure (.yield ((n,a) :: c))) else pure (.yield c)) →
      ∀ (ns:Names) (cs:List (Str × Addr)),(∀ x,(x,NameKind.free) ∈ ns→∃ a,env.cells.lookup x=some a)→(∀ p ∈ cs,env.cells.lookup p.1=some p.2) →
      ∃ cl,(forIn ns cs g:Sem (List (Str × Addr)))=pure cl ∧
        (∀ p ∈ cl,env.cells.lookup p.1=some p.2)∧(∀ p ∈ cs,p ∈ cl)∧∀ x,(x,NameKind.free) ∈ ns→∃ a,(x,a) ∈ cl:=by
    intro g hg ns
    induction ns with
    | nil=>intro cs _ hc; exact ⟨cs,by simp,hc,fun _ m=>m,fun x m=>(nomatch m)⟩
    | cons p r ih =>
      obtain ⟨n,k⟩:=p
      intro cs hn hc
      rw [List.forIn_cons,hg]
      cases hk:k == NameKind.free with
      | true =>
        have hk':k=.free:=eq_of_beq hk
        subst hk'
        obtain ⟨a,ha⟩:=hn n (.head _)
        obtain ⟨cl,e1,e2,e3,e4⟩:=ih ((n,a) :: cs) (fun x m=>hn x (.tail _ m)) (fun p m=>by
          rcases List.mem_cons.mp m with rfl | m
          · exact ha
          · exact hc p m)
        refine ⟨cl,?_,e2,fun p m=>e3 p (.tail _ m),fun x m=>?_⟩
        · have:cellOf env n=pure a:=by unfold cellOf; rw [ha]
          simp [this,e1]
        · rcases List.mem_cons.mp m with e | m
          · cases e; exact ⟨a,e3 _ (.head _)⟩
          · exact e4 x m
      | false =>
        obtain ⟨cl,e1,e2,e3,e4⟩:=ih cs (fun x m=>hn x (.tail _ m)) hc
        refine ⟨cl,by simp [e1],e2,e3,fun x m=>?_⟩
        rcases List.mem_cons.mp m with e | m
        · cases e; cases hk
        · exact e4 x m
  obtain ⟨cl,e1,e2,e3,e4⟩:=key (fun x r=>match x with | (name,kind)=>if kind == .free then (do let a ← cellOf env name; pure (.yield ((name,a) :: r))) else pure (.yield r)) (fun _ _ _=>rfl) scope.names [] hx (fun _ m=>nomatch m)
  have e0:closureFor scope env=pure cl:=by
    refine Eq.trans ?_ e1
    unfold closureFor
    rw [bind_pure]
  refine ⟨cl,e0,fun x m=>?_⟩
  have lk:∀ (l:List (Str × Addr)),(∀ p ∈ l,env.cells.lookup p.1=some p.2)→∀ a,(x,a) ∈ l→l.lookup x=env.cells.lookup x:=by
    intro l
    induction l with
    | nil=>intro _ a m; cases m
    | cons p r ih =>
      intro hp a m
      obtain ⟨y,b⟩:=p
      rw [List.lookup_cons]
      cases hq:x == y with
      | true=>have:=eq_of_beq hq; subst this; exact (hp (x,b) (.head _)).symm
      | false =>
        rcases List.mem_cons.mp m with e | m
        · cases e; simp at hq
        · exact ih (fun p m=>hp p (.tail _ m)) a m
  obtain ⟨a,ha⟩:=e4 x m
  exact lk cl e2 a ha
noncomputable def EqR (_:Wd) (a b:Bool):Prop:=a=b
theorem sat_conds {T:Tab} {cf:Nat→List V→List AO→R V} {K:Nat} {l:List LV} {env:Env} {g:Expr→Ex} {F:Expr→Bool→Sem (ForInStep Bool)} (hF:∀ c r,F c r=if r=true then do let ok ← isTrue c env (eval c env); pure (ForInStep.yield ok) else pure (ForInStep.yield r)) :
    ∀ {es:List Expr},(∀ e ∈ es,TS C A fs (isTrue e env (eval e env)) (evalE T cf K l true (g e)))→∀ W os s,HR C fs W os s.heap→Sat C A (forIn es true F) EqR fs W (condsE T cf K l (exsMap g es) os) s
  | [],_,W,os,s,H=>Sat.pure H rfl
  | e :: es,he,W,os,s,H=>by
    rw [List.forIn_cons,hF]
    simp only [if_true]
    show Sat C A _ EqR fs W ((evalE T cf K l true (g e) os).bind _) s
    have e0:∀ {α β γ:Type} (m:Sem α) (k:α→Sem β) (q:β→Sem γ),(m >>= k) >>= q=m >>= fun a=>k a >>= q:=fun m k q=>bind_assoc m k q
    rw [e0]
    refine Sat.bind (he e (.head _) W os s H) fun v os1 W1 b s1 le1 H1 q1=>?_
    cases q1
    refine Sat.bindP ?_
    cases b with
    | true=>exact sat_conds hF (fun e m=>he e (.tail _ m)) W1 os1 s1 H1
    | false =>
      have stop:∀ (es:List Expr),(forIn es false F:Sem Bool)=pure false:=by
        intro es
        induction es with
        | nil=>rfl
        | cons c cs ih=>rw [List.forIn_cons,hF]; simp [ih]
      show Sat C A (forIn es false F) EqR fs W1 (.ok false os1) s1
      rw [stop]
      exact Sat.pure H1 rfl
end
structure Nrel (ns ns':Names):Prop where
  slot:∀ x i k,slotOf x ns 0=some (i,k)→∃ k',slotOf x ns' 0=some (i,k')∧(k'=k ∨ k=.free∧k'=.cell)
  nd:(ns'.map (·.1)).Nodup
theorem noDup_spec:∀ {l:List Str},noDup l=true→l.Nodup
  | [],_=>List.nodup_nil
  | x :: r,h=>by
    unfold noDup at h
    simp only [Bool.and_eq_true,Bool.not_eq_true'] at h
    exact List.nodup_cons.mpr ⟨by simpa using h.1,noDup_spec h.2⟩
theorem Nrel.self {ns:Names} (h:(ns.map (·.1)).Nodup):Nrel ns ns:=⟨fun x i k e=>⟨k,e,.inl rfl⟩,h⟩
theorem slotOf_map {g:Str × NameKind→Str × NameKind} (hg:∀ p,(g p).1=p.1) {x:Str}:∀ (ns:Names) (n:Nat),slotOf x (ns.map g) n=(slotOf x ns n).map fun q=>(q.1,(g (x,q.2)).2)
  | [],n=>rfl
  | (y,k) :: r,n=>by
    have e:g (y,k)=(y,(g (y,k)).2):=Prod.ext (hg (y,k)) rfl
    rw [List.map_cons,e]
    unfold slotOf
    by_cases h:x == y
    · have:x=y:=eq_of_beq h
      subst this
      simp
    · rw [if_neg h,if_neg h]
      exact slotOf_map hg r (n+1)
noncomputable def relab (env:Env) (p:Str × NameKind):Str × NameKind:=if (p.2 == .free&&env.scope.kind == .function&&env.kindOf p.1 == some .cell) then (p.1,.cell) else p
theorem relabel_names (sc:Scope) (env:Env):(relabel sc env).names=sc.names.map (relab env):=rfl
theorem relab_fst (env:Env) (p:Str × NameKind):(relab env p).1=p.1:=by unfold relab; split<;>rfl
set_option tactic.hygienic true in
theorem relab_snd (env:Env) (p:Str × NameKind):(relab env p).2=p.2 ∨ p.2=.free∧(relab env p).2=.cell:=by
  unfold relab
  split
  · rename_i h; simp only [Bool.and_eq_true] at h; exact .inr ⟨eq_of_beq h.1.1,rfl⟩
  · exact .inl rfl
theorem Nrel.relabel {sc:Scope} {env:Env} (h:(sc.names.map (·.1)).Nodup):Nrel sc.names (relabel sc env).names:=by
  rw [relabel_names]
  refine ⟨fun x i k e=>?_,?_⟩
  · rw [slotOf_map (relab_fst env),e]
    exact ⟨_,rfl,relab_snd env (x,k)⟩
  · rw [List.map_map]
    have:(fun x=>x.1) ∘ relab env=(fun x:Str × NameKind=>x.1):=by funext p; exact relab_fst env p
    rw [this]; exact h
set_option tactic.hygienic true in
theorem compLoc_spec {l:List LV}:∀ {fr:List (Option Nat)} {l':List LV},compLoc l fr=some l'→l'.length=fr.length ∧
    ∀ (i:Nat) (v:LV),l'[i]?=some v→(fr[i]?=some none∧v=.un) ∨ ∃ j q,fr[i]?=some (some j)∧l[j]?=some (.cel q)∧v=.cel q
  | [],l',e=>by cases e; exact ⟨rfl,fun i v e=>by simp at e⟩
  | none :: r,l',e=>by
    unfold compLoc at e
    obtain ⟨l2,e1,rfl⟩:=Option.map_eq_some_iff.mp e
    obtain ⟨a,b⟩:=compLoc_spec e1
    refine ⟨by simp [a],fun i v e=>?_⟩
    cases i with
    | zero=>simp at e; subst e; exact .inl ⟨rfl,rfl⟩
    | succ i=>simpa using b i v (by simpa using e)
  | some j :: r,l',e=>by
    unfold compLoc at e
    split at e
    · rename_i q eq
      obtain ⟨l2,e1,rfl⟩:=Option.map_eq_some_iff.mp e
      obtain ⟨a,b⟩:=compLoc_spec e1
      refine ⟨by simp [a],fun i v e=>?_⟩
      cases i with
      | zero=>simp at e; subst e; exact .inr ⟨j,q,rfl,eq,rfl⟩
      | succ i=>simpa using b i v (by simpa using e)
    · cases e
theorem slotOf_mem {x:Str} {k:NameKind}:∀ {ns:Names} {n:Nat},(x,k) ∈ ns→∃ q,slotOf x ns n=some q
  | (y,k') :: r,n,m=>by
    unfold slotOf
    by_cases h:x == y
    · rw [if_pos h]; exact ⟨_,rfl⟩
    · rw [if_neg h]
      rcases List.mem_cons.mp m with e | m
      · cases e; simp at h
      · exact slotOf_mem m
set_option tactic.hygienic true in
theorem compOk_spec {ns:Names} {sc:Scope} (h:compOk ns sc=true):sc.kind=.function∧(sc.names.map (·.1)).Nodup∧∀ x k,(x,k) ∈ sc.names→k ≠ .cell∧(k=.free→∃ j kk,slotOf x ns 0=some (j,kk)):=by
  unfold compOk at h
  simp only [Bool.and_eq_true,List.all_eq_true] at h
  refine ⟨eq_of_beq h.1.1,noDup_spec h.1.2,fun x k m=>?_⟩
  have:=h.2 (x,k) m
  simp only [Bool.and_eq_true,Bool.or_eq_true,bne_iff_ne] at this
  refine ⟨this.1,fun e=>?_⟩
  rcases this.2 with q | q
  · exact absurd e q
  · unfold freeKind at q
    split at q
    · rename_i i e; exact ⟨i,_,e⟩
    · rename_i i e; exact ⟨i,_,e⟩
    · cases q
theorem freeSlots_get {ns cs:Names} {i:Nat} {x:Str} {k:NameKind} (e:cs[i]?=some (x,k)):(freeSlots ns cs)[i]?=some (if k=.free then (slotOf x ns 0).map (·.1) else none):=by
  unfold freeSlots
  rw [List.getElem?_map,e]
  cases k<;>rfl
section
variable {C:Cx} {T:Tab} {cf:Nat→List V→List AO→R V} {K:Nat} {A:Around} {fs:List FrD} {f:FrD} {W:Wd} {os:List AO} {h:Heap} {s:Shared} {n:Nat}
theorem Sat.run {α β:Type} {rel:Wd→α→β→Prop} {t:Sem β} {r:R α} {a:α} {os':List AO} (hs:Sat C A t rel fs W r s) (e:r=.ok a os') {E:Value→Shared→Prop} :
    wpAny (model C.prog C.w) A t (fun x s'=>∃ W',W.le W'∧HR C fs W' os' s'.heap∧rel W' a x∧Sm s s') E s:=by
  subst e
  refine wpAny_mono (hs (fun q=>nomatch q)) ?_ ?_
  · rintro x s' ⟨a',os2,W',e,le,H,q,sm⟩
    cases e
    exact ⟨W',le,H,q,sm⟩
  · rintro x s' ⟨m,os2,W',b,e,_⟩
    cases e
theorem free_at (F:FR W h f) {ns:Names} (hN:Nrel ns f.env.scope.names) {sc:Scope} (hok:compOk ns sc=true) {l':List LV} (hl:compLoc f.loc (freeSlots ns sc.names)=some l') {i:Nat} {x:Str} (e:sc.names[i]?=some (x,.free)) :
    ∃ q a,l'[i]?=some (.cel q)∧f.env.cells.lookup x=some a∧W.φ[q]?=some a:=by
  obtain ⟨_,_,hx⟩:=compOk_spec hok
  obtain ⟨j,kk,ej⟩:=(hx x .free (List.mem_of_getElem? e)).2 rfl
  obtain ⟨hlen,hs⟩:=compLoc_spec hl
  have ef:=freeSlots_get (ns:=ns) e
  rw [if_pos rfl,ej] at ef
  have hi:i < l'.length:=by rw [hlen]; exact (List.getElem?_eq_some_iff.mp ef).1
  rcases hs i _ (List.getElem?_eq_getElem hi) with ⟨q1,_⟩ | ⟨j',q,q1,q2,q3⟩
  · rw [ef] at q1; cases q1
  · rw [ef] at q1
    cases q1
    obtain ⟨k',e1,_⟩:=hN.slot x j kk ej
    obtain ⟨_,e2,_⟩:=slotOf_spec x _ _ _ _ e1
    rw [Nat.sub_zero] at e2
    obtain ⟨m,_,hlr⟩:=F.ns
    obtain ⟨_,a,ha,hq⟩:=hlr j x k' _ e2 q2
    exact ⟨q,a,by rw [List.getElem?_eq_getElem hi,q3],ha,hq⟩
theorem compFrame (F:FR W h f) {ns:Names} (hN:Nrel ns f.env.scope.names) {sc:Scope} (hok:compOk ns sc=true) {l':List LV} (hl:compLoc f.loc (freeSlots ns sc.names)=some l') {cl:List (Str × Addr)}
    (hcl:∀ x,(x,NameKind.free) ∈ sc.names→cl.lookup x=f.env.cells.lookup x) {a:Addr} {h':Heap} {m:Str→Option Value} (hn:h'.Ns a m):FR W h' ⟨compEnvC sc cl a f.env,l'⟩:=by
  obtain ⟨ok1,ok2,ok3⟩:=compOk_spec hok
  obtain ⟨hlen,hs⟩:=compLoc_spec hl
  have orig:∀ (i:Nat) (x:Str) (k:NameKind),(relabel sc f.env).names[i]?=some (x,k)→∃ k0,sc.names[i]?=some (x,k0)∧(k=k0 ∨ k0=.free∧k=.cell):=by
    intro i x k e
    rw [relabel_names,List.getElem?_map,Option.map_eq_some_iff] at e
    obtain ⟨p,e1,e2⟩:=e
    have h1:=relab_fst f.env p
    have h2:=relab_snd f.env p
    rw [e2] at h1 h2
    obtain ⟨y,k0⟩:=p
    dsimp only at h1 h2
    subst h1
    exact ⟨k0,e1,h2⟩
  refine ⟨ok1,F.glob,F.bns,⟨m,hn,fun i x k v e1 e2=>?_⟩,fun i x e1 v e2=>?_⟩
  · obtain ⟨k0,e0,hk⟩:=orig i x k e1
    by_cases hf:k0=.free
    · subst hf
      obtain ⟨q,a',g1,g2,g3⟩:=free_at F hN hok hl e0
      rw [g1] at e2
      cases e2
      refine ⟨?_,a',(hcl x (List.mem_of_getElem? e0)).trans g2,g3⟩
      rcases hk with rfl | ⟨_,rfl⟩
      · exact .inr rfl
      · exact .inl rfl
    · rcases hs i v e2 with ⟨_,rfl⟩ | ⟨j,q,q1,_⟩
      · trivial
      · rw [freeSlots_get e0,if_neg hf] at q1
        cases q1
  · obtain ⟨k0,e0,hk⟩:=orig i x .cell e1
    have hf:k0=.free:=by
      rcases hk with rfl | ⟨rfl,_⟩
      · exact absurd rfl (ok3 x .cell (List.mem_of_getElem? e0)).1
      · rfl
    subst hf
    obtain ⟨q,a',g1,g2,g3⟩:=free_at F hN hok hl e0
    rw [g1] at e2
    cases e2
    exact ⟨q,rfl⟩
theorem compClos (F:FR W h f) {ns:Names} (hN:Nrel ns f.env.scope.names) {sc:Scope} (hok:compOk ns sc=true) {l':List LV} (hl:compLoc f.loc (freeSlots ns sc.names)=some l') :
    ∃ cl,closureFor sc f.env=pure cl∧∀ x,(x,NameKind.free) ∈ sc.names→cl.lookup x=f.env.cells.lookup x:=by
  refine closureFor_some fun x m=>?_
  obtain ⟨i,e⟩:=List.getElem?_of_mem m
  obtain ⟨q,a,_,e2,_⟩:=free_at F hN hok hl e
  exact ⟨a,e2⟩
theorem IO.unused {src:Src} {j:Nat} {o:Obj} (x:IO W src j o):¬ Used o:=by
  have key:∀ (c:String),o.cls=.type c→c ≠ "tuple"→c ≠ "list"→c ≠ "range"→c ≠ "ValueError"→¬ Used o:=by
    intro c hc h1 h2 h3 h4 u
    unfold Used at u
    rw [hc] at u
    rcases u with u | u | u | u<;>(injection u with u; first | exact h1 u | exact h2 u | exact h3 u | exact h4 u)
  cases x with
  | ascii x t j o c d=>exact key _ c (by decide) (by decide) (by decide) (by decide)
  | wide x t j o c d=>exact key _ c (by decide) (by decide) (by decide) (by decide)
  | tup vs a xs n j o m r c d=>exact key _ c (by decide) (by decide) (by decide) (by decide)
  | rng n j o a b=>exact key "range_iterator" (by rw [b]) (by decide) (by decide) (by decide) (by decide)
  | live i l j o e c d=>exact key _ c (by decide) (by decide) (by decide) (by decide)
theorem sat_self {src:Src} {j:Nat} {it:Addr} {o:Obj} (g:s.heap.get? it=some o) (I:IO W src j o) {Q:Value→Shared→Prop} {E:Value→Shared→Prop} (h:Q (.ref it) s):wpAny (model C.prog C.w) A (pyIter (.ref it)) Q E s:=by
  cases I with
  | ascii x t _ _ c d=>exact wpAny_pyIter_striter_ascii ⟨o,g,c,d⟩ h
  | wide x t _ _ c d=>exact wpAny_pyIter_striter_wide ⟨o,g,c,d⟩ h
  | tup vs a xs n _ _ m r c d=>exact wpAny_pyIter_tupleiter ⟨o,g,c,d⟩ h
  | rng n _ _ hj eo=>subst eo; exact wpAny_pyIter_rangeiter g h
  | live i l _ _ el c d=>exact wpAny_pyIter_listiter ⟨o,g,c,d⟩ h
theorem Hid.cut {it:Addr} (Z:Hid C fs W it):Hid C fs (W.cut n) it where
  fr m:=by
    rcases List.mem_append.mp m with m | m
    · exact Z.fr (List.mem_append_left _ m)
    · exact Z.fr (List.mem_append_right _ (List.mem_of_mem_take m))
  base:=Z.base
  kp:=Z.kp
end
end Mine
end
section
open PySem PySem.W PySem.Calls PyProof.Rows
set_option backward.match.sparseCases false
namespace Mine
section
variable {C:Cx} {T:Tab} {cf:Nat→List V→List AO→R V} {K:Nat} {A:Around} {fs:List FrD} {f:FrD} {W:Wd} {os:List AO} {h:Heap} {s:Shared} {n:Nat}
noncomputable def compBody (T:Tab) (cf:Nat→List V→List AO→R V) (K:Nat) (l':List LV) (t:Nat) (cs:Exs) (e:Ex) (v:V) (s:List AO):R (Option V) :=
  (setLoc l' s t v).run fun l'' s=>(condsE T cf K l'' cs s).bind fun b s=>if b then (evalE T cf K l'' false e s).bind fun v s=>.ok (some v) s else .ok none s
theorem aoLows_set {n:Nat}:∀ {os:List AO} {i:Nat} {o:AO},aoLows n os=true→o.low n=true→aoLows n (os.set i o)=true
  | [],i,o,_,_=>rfl
  | a :: os,0,o,h,e=>by
    unfold aoLows at h
    simp only [Bool.and_eq_true] at h
    rw [List.set_cons_zero]; unfold aoLows
    rw [e,h.2]; rfl
  | a :: os,i+1,o,h,e=>by
    unfold aoLows at h
    simp only [Bool.and_eq_true] at h
    rw [List.set_cons_succ]; unfold aoLows
    rw [h.1,aoLows_set h.2 e]; rfl
theorem lows_append {n:Nat}:∀ {as bs:List V},lows n as=true→lows n bs=true→lows n (as++bs)=true
  | [],bs,_,h=>h
  | a :: as,bs,h,h2=>by
    unfold lows at h
    simp only [Bool.and_eq_true] at h
    rw [List.cons_append]; unfold lows
    rw [h.1,lows_append h.2 h2]; rfl
theorem turnEnd {cf':FrD} {l₂:List LV} {W' W₂:Wd} {os₂:List AO} {h' h₂:Heap} {it:Addr} {o:Obj} (F0:∀ g ∈ cf' :: fs,FR W' h' g) (hn:W'.φ.length=n) (Zk:∀ p ∈ W'.kp,p.1 ≠ it) (Zb:C.h₀.get? it=none)
    (H:HR C (⟨cf'.env,l₂⟩ :: fs) W₂ os₂ h₂) (le:Wd.le ⟨W'.φ,(it,o) :: W'.kp⟩ W₂) (ho:¬ Used o)
    (hl:∀ (i:Nat) (v:LV),cf'.loc[i]?=some v→l₂[i]?=some v ∨ v=.un) (lo:aoLows n (os₂.take n)=true) :
    ∃ W₃,W'.le W₃∧W₃.φ.length=n∧HR C (cf' :: fs) W₃ (os₂.take n) h₂∧Hid C (cf' :: fs) W₃ it∧h₂.get? it=some o:=by
  have mk:(it,o) ∈ W₂.kp:=le.kp _ (.head _)
  have g:h₂.get? it=some o:=H.kept _ mk
  have H1:HR C (cf' :: fs) W₂ os₂ h₂:=H.forget hl (F0 cf' (.head _)).cel
  have H2:=H1.unhold g ho
  have le0:W'.le W₂:=⟨le.φ,fun p m=>le.kp p (.tail _ m)⟩
  have le1:W'.le (W₂.off it):=le_off le0 Zk
  have le2:W'.le ((W₂.off it).cut n):=le_cut le1 hn
  have hlen:n ≤ os₂.length:=by
    rw [← H.len]
    have:W'.φ.length ≤ W₂.φ.length:=le.φ.length_le
    omega
  refine ⟨(W₂.off it).cut n,le2,?_,?_,?_,g⟩
  · show (W₂.φ.take n).length=n
    rw [List.length_take,H.len]; omega
  · exact H2.cut hlen lo rfl fun q m=>FR.cutSame (F0 q m) hn (H2.frames q m)
  · exact (Hid.unhold H1 mk Zb).cut
theorem bindP_fail {α β:Type} {r:R α} {k:α→List AO→R β} (h:r.bind k ≠ .fail):r ≠ .fail:=by intro e; rw [e] at h; exact h rfl
section
variable {α β:Type} {r:R β}
theorem R.opt_is {o:Option α} {f:α→R β} (e:R.opt o f=r) (h:r ≠ .fail):∃ a,o=some a∧f a=r:=by
  cases o with
  | none=>exact absurd e.symm h
  | some a=>exact ⟨a,rfl,e⟩
theorem R.only_is {x:R α} {f:α→List AO→R β} (e:x.only f=r) (h:r ≠ .fail):∃ a s,x=.ok a s∧f a s=r:=by
  cases x with
  | ok a s=>exact ⟨a,s,rfl,e⟩
  | _=>exact absurd e.symm h
theorem R.bind_is {x:R α} {f:α→List AO→R β} {b:β} {s:List AO} (e:x.bind f=.ok b s):∃ a s',x=.ok a s'∧f a s'=.ok b s:=by
  cases x with
  | ok a s=>exact ⟨a,s,rfl,e⟩
  | _=>cases e
theorem RS.run_is {x:RS} {f:List LV→List AO→R β} {b:β} {s:List AO} (e:x.run f=.ok b s):∃ l s',x=.next l s'∧f l s'=.ok b s:=by
  cases x with
  | next l s=>exact ⟨l,s,rfl,e⟩
  | _=>cases e
end
theorem list_at {o:Option AO} {vs:List V} (e:o.bind AO.list?=some vs):o=some (.list vs):=by
  obtain ⟨a,e1,e2⟩:=bindSome e
  cases AO.list_of e2
  exact e1
theorem comp_turn (hsm:∃ o,C.h₀.get? sysModules=some o) {cenv:Env} {l':List LV} {t:Nat} {x:Str} {e:Expr} {ifs:List Expr} {g:Expr→Ex} {px:Pos} (nd:(cenv.scope.names.map (·.1)).Nodup) (ht:slotOf x cenv.scope.names 0=some (t,.local)) (hun:l'[t]?=some .un)
    (hE:∀ l,ES C A (⟨cenv,l⟩ :: fs) (eval e cenv) (evalE T cf K l false (g e))) (hI:∀ l,∀ c ∈ ifs,TS C A (⟨cenv,l⟩ :: fs) (isTrue c cenv (eval c cenv)) (evalE T cf K l true (g c)))
    {it D:Addr} {o:Obj} (H:HR C (⟨cenv,l'⟩ :: fs) W os s.heap) (Z:Hid C (⟨cenv,l'⟩ :: fs) W it) (gi:s.heap.get? it=some o) (ho:¬ Used o) (hn:W.φ.length=n+1) (hD:W.φ[n]?=some D) {v:V} {y:Value} (hv:VR W v y)
    {F:List AO→R V} {r0:R V} (er:(compBody T cf K l' t (exsMap g ifs) (g e) v os).only (fun r s=>R.opt (compStep n r s) F)=r0) (hr:r0 ≠ .fail) {J:Shared→Prop} {E:Value→Shared→Prop}
    (fin:∀ os' W' s',HR C (⟨cenv,l'⟩ :: fs) W' os' s'.heap→W.le W'→Sm s s'→Hid C (⟨cenv,l'⟩ :: fs) W' it→s'.heap.get? it=some o→W'.φ.length=n+1→F os'=r0→J s') :
    wpAny (model C.prog C.w) A (assign (.Name x px) cenv y) (fun _ s₂=>wpAny (model C.prog C.w) A (forIn ifs true fun c r=>if r=true then do let ok ← isTrue c cenv (eval c cenv); pure (ForInStep.yield ok) else pure (ForInStep.yield r)) (fun ok s₃ =>
      if ok=true then wpAny (model C.prog C.w) A (eval e cenv) (fun x s₄=>wpAny (model C.prog C.w) A (call (.builtin "list.append") [.ref D,x]) (fun _ s₅=>J s₅) E s₄) E s₃ else J s₃) E s₂) E s:=by
  obtain ⟨r,os1,eb,er⟩:=R.only_is er hr
  obtain ⟨os2,es,er⟩:=R.opt_is er hr
  obtain ⟨l2,os3,e1,eb⟩:=RS.run_is eb
  obtain ⟨b,os4,ec,eb⟩:=R.bind_is eb
  obtain ⟨vs,ev,es⟩:=bindSome es
  have ev:=list_at ev
  have F0:∀ q ∈ (⟨cenv,l'⟩ :: fs:List FrD),FR W s.heap q:=H.frames
  refine wpAny_assign_Name (wpAny_mono (sat_store (f:=⟨cenv,l'⟩) (H.hold Z gi) nd ht rfl (hv.mono (leK _ _)) (by rw [e1]; exact fun q=>nomatch q)) (fun _ s₂ hs₂=>?_) (fun _ _ x=>x))
  obtain ⟨l3,os5,e2,H₂,sm₂⟩:=hs₂
  cases e1.symm.trans e2
  have hl2:∀ (i:Nat) (w:LV),l'[i]?=some w→l2[i]?=some w ∨ w=.un:=by
    have e1:(match l'[t]? with | some (.cel j)=>_ | some _=>RS.next (l'.set t (.val v)) os | none=>_)=RS.next l2 os3:=e1
    rw [hun] at e1
    cases e1
    intro i w ew
    by_cases hi:i=t
    · subst hi; rw [hun] at ew; cases ew; exact .inr rfl
    · rw [List.getElem?_set_ne (Ne.symm hi)]; exact .inl ew
  refine wpAny_mono ((sat_conds (fun _ _=>rfl) (hI l2) _ os3 s₂ H₂).run ec) (fun ok s₃ h₃=>?_) (fun _ _ x=>x)
  obtain ⟨W3,le3,H3,rfl,sm3⟩:=h₃
  cases b with
  | false =>
    cases eb
    obtain ⟨hlo,rfl⟩:=iteSome es
    rw [if_neg Bool.false_ne_true]
    obtain ⟨W4,le4,len4,H4,Z4,g4⟩:=turnEnd (cf':=⟨cenv,l'⟩) F0 hn Z.kp Z.base H3 le3 ho hl2 hlo
    exact fin _ W4 _ H4 le4 (sm₂.trans sm3) Z4 g4 len4 er
  | true =>
    obtain ⟨w,os5,ee,eb⟩:=R.bind_is eb
    cases eb
    obtain ⟨hlo,rfl⟩:=iteSome es
    obtain ⟨hlo,hlim⟩:=and_of hlo
    obtain ⟨hw0,hlo⟩:=and_of hlo
    rw [if_pos rfl]
    refine wpAny_mono ((hE l2 _ os4 s₃ H3).run ee) (fun yw s₅ h₅=>?_) (fun _ _ x=>x)
    obtain ⟨W5,le5,H5,hw,sm5⟩:=h₅
    have hDD:W5.φ[n]?=some D:=le5.at (le3.at (Wd.le.at (leK W _) hD))
    obtain ⟨ob,g5,r5⟩:=H5.objs _ _ _ ev hDD
    have hap:=sat_app (A:=A) (s:=s₅) ev hDD g5 r5 hw H5
    rw [bmVal_list ev] at hap
    refine wpAny_mono (hap.run (if_pos (of_decide_eq_true hlim))) (fun z s₆ h₆=>?_) (fun _ _ x=>x)
    obtain ⟨W6,le6,H6,_,sm6⟩:=h₆
    have hlow:aoLows (n+1) ((os1.set n (.list (vs++[w]))).take (n+1))=true:=by
      rw [List.take_set]
      refine aoLows_set hlo ?_
      have h1:(AO.list vs).low (n+1)=true:=aoLows_get hlo (i:=n) (by rw [List.getElem?_take,if_pos (Nat.lt_succ_self _)]; exact ev)
      exact lows_append h1 (by unfold lows; rw [hw0]; rfl)
    obtain ⟨W4,le4,len4,H4,Z4,g4⟩:=turnEnd (cf':=⟨cenv,l'⟩) F0 hn Z.kp Z.base H6 ((le3.trans le5).trans le6) ho hl2 hlow
    rw [List.take_set] at H4
    exact fin _ W4 _ H4 le4 (((sm₂.trans sm3).trans sm5).trans sm6) Z4 g4 len4 er
noncomputable def CompI (C:Cx) (fs:List FrD) (cenv:Env) (l':List LV) (W0:Wd) (s0:Shared) (it D:Addr) (src:Src) (n:Nat) (body:V→List AO→R (Option V)) (r0:R V) (k:Nat) (s':Shared):Prop:=∃ j W' os' o,HR C (⟨cenv,l'⟩ :: fs) W' os' s'.heap∧W0.le W'∧Sm s0 s'∧Hid C (⟨cenv,l'⟩ :: fs) W' it∧s'.heap.get? it=some o∧IO W' src j o∧W'.φ.length=n+1 ∧
      W'.φ[n]?=some D∧compTurns src n body k j os'=r0
theorem comp_loop (hsm:∃ o,C.h₀.get? sysModules=some o) (hh:A.handled=none) {cenv:Env} {l':List LV} {t:Nat} {x:Str} {e it0:Expr} {ifs:List Expr} {g:Expr→Ex} {px pos:Pos} {sc:Scope} (nd:(cenv.scope.names.map (·.1)).Nodup) (ht:slotOf x cenv.scope.names 0=some (t,.local)) (hun:l'[t]?=some .un)
    (hE:∀ l,ES C A (⟨cenv,l⟩ :: fs) (eval e cenv) (evalE T cf K l false (g e))) (hI:∀ l,∀ c ∈ ifs,TS C A (⟨cenv,l⟩ :: fs) (isTrue c cenv (eval c cenv)) (evalE T cf K l true (g c)))
    {src:Src} {it D:Addr} {o:Obj} (H:HR C (⟨cenv,l'⟩ :: fs) W os s.heap) (Z:Hid C (⟨cenv,l'⟩ :: fs) W it) (gi:s.heap.get? it=some o) (I:IO W src 0 o) (hn:W.φ.length=n+1) (hD:W.φ[n]?=some D) {r0:R V} (hr0:compTurns src n (compBody T cf K l' t (exsMap g ifs) (g e)) K 0 os=r0) (hr:r0 ≠ .fail) {RR:Result→Shared→Prop}
    (hRR:∀ W' os' s',HR C (⟨cenv,l'⟩ :: fs) W' os' s'.heap→W.le W'→r0=.ok (.obj n) os'→W'.φ[n]?=some D→Sm s s'→RR (.ok .next) s') :
    codeAny (model C.prog C.w) A (.compLoop (.ListComp e [⟨.Name x px,it0,ifs,0⟩] sc pos) 0 (.ref it) (.ref D) cenv) RR s:=by
  refine codeAny_compLoop_tests (CompI C fs cenv l' W s it D src n (compBody T cf K l' t (exsMap g ifs) (g e)) r0) ?_ K ⟨0,W,os,o,H,.refl W,.refl s,Z,gi,I,hn,hD,hr0⟩
  rintro k s' ⟨j,W',os',oi,H',le',sm',Z',gi',I',hlen',hD',er⟩
  cases k with
  | zero=>exact absurd er.symm hr
  | succ k =>
    obtain ⟨ov,esrc,er⟩:=R.opt_is er hr
    refine wpAny_mono (sat_next hh H' Z' gi' I' esrc) (fun y s₁ hy=>?_) (fun _ _ x=>x)
    cases ov with
    | none =>
      obtain ⟨H₁,sm₁,rfl⟩:=hy
      exact hRR W' os' s₁ H₁ le' er.symm hD' (sm'.trans sm₁)
    | some v =>
      obtain ⟨H₁,sm₁,y',o',rfl,hv,go',I₁⟩:=hy
      exact comp_turn hsm nd ht hun hE hI H₁ Z' go' I₁.unused hlen' hD' hv (F:=fun s=>compTurns src n (compBody T cf K l' t (exsMap g ifs) (g e)) k (j+1) s) er hr
        fun os4 W4 s4 H4 le4 sm4 Z4 g4 len4 ef=>⟨k,Nat.lt_succ_self _,j+1,W4,os4,o',H4,le'.trans le4,(sm'.trans sm₁).trans sm4,Z4,g4,I₁.mono le4,len4,le4.at hD',ef⟩
theorem free_un {ns:Names} {sc:Scope} {l l':List LV} (hl:compLoc l (freeSlots ns sc.names)=some l') {t:Nat} {x:Str} (et:sc.names[t]?=some (x,.local)):l'[t]?=some .un:=by
  obtain ⟨hlen,hs⟩:=compLoc_spec hl
  have ef:=freeSlots_get (ns:=ns) et
  rw [if_neg (fun q=>nomatch q)] at ef
  have hi:t < l'.length:=by rw [hlen]; exact (List.getElem?_eq_some_iff.mp ef).1
  rcases hs t _ (List.getElem?_eq_getElem hi) with ⟨_,q⟩ | ⟨j,q,q1,_⟩
  · rw [List.getElem?_eq_getElem hi,q]
  · rw [ef] at q1; cases q1
theorem Hid.comp {it a D:Addr} {env:Env} {l':List LV} (Z:Hid C fs W it) (he:env.locals=a) (h1:it ≠ a) (h2:it ≠ D):Hid C (⟨env,l'⟩ :: fs) ⟨W.φ++[D],W.kp⟩ it:=by
  refine ⟨fun m=>?_,Z.base,Z.kp⟩
  have m:it ∈ env.locals :: (fs.map (·.env.locals)++(W.φ++[D])):=m
  rw [he,← List.append_assoc] at m
  cases m with
  | head=>exact h1 rfl
  | tail _ m=>exact (List.mem_append.mp m).elim (fun m=>Z.fr m) fun m=>h2 (List.mem_singleton.mp m)
theorem comp_core (X:CxOk C) (hh:A.handled=none) {ns:Names} (hm:f ∈ fs) (hN:Nrel ns f.env.scope.names) {sc:Scope} (hok:compOk ns sc=true) {l':List LV} (hl:compLoc f.loc (freeSlots ns sc.names)=some l')
    {t:Nat} {x:Str} (ht:slotOf x sc.names 0=some (t,.local)) {e it0:Expr} {ifs:List Expr} {g:Expr→Ex} {px pos:Pos}
    (hE:∀ cf':FrD,Nrel sc.names cf'.env.scope.names→cf'.env.frame=f.env.frame→cf'.env.locals ∉ fs.map (·.env.locals)→ES C A (cf' :: fs) (eval e cf'.env) (evalE T cf K cf'.loc false (g e)))
    (hI:∀ cf':FrD,Nrel sc.names cf'.env.scope.names→cf'.env.frame=f.env.frame→cf'.env.locals ∉ fs.map (·.env.locals)→∀ c ∈ ifs,TS C A (cf' :: fs) (isTrue c cf'.env (eval c cf'.env)) (evalE T cf K cf'.loc true (g c)))
    {cl:List (Str × Addr)} (hcl:∀ x,(x,NameKind.free) ∈ sc.names→cl.lookup x=f.env.cells.lookup x)
    {src:Src} {it:Addr} {o:Obj} (H:HR C fs W os s.heap) (Z:Hid C fs W it) (gi:s.heap.get? it=some o) (I:IO W src 0 o)
    (hr:compTurns src os.length (compBody T cf K l' t (exsMap g ifs) (g e)) K 0 (os++[.list []]) ≠ .fail) {E:Value→Shared→Prop} {RR:Value→Addr→Result→Shared→Prop}
    (hRR:∀ D cf' W' os' s',HR C (cf' :: fs) W' os' s'.heap→W.le W'→compTurns src os.length (compBody T cf K l' t (exsMap g ifs) (g e)) K 0 (os++[.list []])=.ok (.obj os.length) os'→W'.φ[os.length]?=some D→Sm s s' →
      RR (.ref D) cf'.env.locals (.ok .next) s') :
    wpAny (model C.prog C.w) A (newList []) (fun acc s₃=>wpAny (model C.prog C.w) A (newFunctionEnv sc f.env.globals cl [] f.env.qual none .none (some f.env)) (fun cenv s₄ =>
      codeAny (model C.prog C.w) A (.compStart (.ListComp e [⟨.Name x px,it0,ifs,0⟩] sc pos) 0 (.ref it) acc { cenv with scope:=relabel sc f.env }) (RR acc cenv.locals) s₄) E s₃) E s:=by
  obtain ⟨ok1,ok2,ok3⟩:=compOk_spec hok
  have hcell:∀ y ∈ sc.names,y.2 ≠ .cell:=fun y m=>(ok3 y.1 y.2 m).1
  obtain ⟨_,et,_⟩:=slotOf_spec x _ _ _ _ ht
  rw [Nat.sub_zero] at et
  refine wpAny_newObj_type (wpAny_newFunctionEnv hcell (by intro y hy; simp at hy) (fun h₁ hns₁ hsb₁=>?_) ok1)
  have H0:HR C fs ⟨W.φ++[s.heap.objs.size],W.kp⟩ (os++[.list []]) (s.heap.push (lstOf [] 0)):=H.new (.list [] [] 0 .nil (by simp [lim]))
  have hk0:∀ b o,(s.heap.push (lstOf [] 0)).get? b=some o→h₁.get? b=some o:=fun b o e =>
    (hsb₁.2 b (Nat.ne_of_lt (Heap.lt_size e))).trans (Heap.get?_push_of_some _ e)
  have gi0:=Heap.get?_push_of_some (lstOf [] 0) gi
  have ZF:Hid C fs ⟨W.φ++[s.heap.objs.size],W.kp⟩ (s.heap.push (lstOf [] 0)).objs.size:=Hid.fresh H0 (Nat.le_refl _)
  have F1:=compFrame (H0.frames f hm) hN hok hl hcl hns₁
  have H1:HR C (⟨compEnvC sc cl (s.heap.push (lstOf [] 0)).objs.size f.env,l'⟩ :: fs) ⟨W.φ++[s.heap.objs.size],W.kp⟩ (os++[.list []]) h₁:=H0.pushF (f:=⟨compEnvC sc cl (s.heap.push (lstOf [] 0)).objs.size f.env,l'⟩) ZF hk0 F1
  have Z1:Hid C (⟨compEnvC sc cl (s.heap.push (lstOf [] 0)).objs.size f.env,l'⟩ :: fs) ⟨W.φ++[s.heap.objs.size],W.kp⟩ it:=Z.comp rfl (Nat.ne_of_lt (Heap.lt_size gi0)) (Nat.ne_of_lt (Heap.lt_size gi))
  have g1:h₁.get? it=some o:=hk0 _ _ gi0
  have I1:IO ⟨W.φ++[s.heap.objs.size],W.kp⟩ src 0 o:=I.mono (leN W _)
  have hcl':(s.heap.push (lstOf [] 0)).objs.size ∉ fs.map (·.env.locals):=fun m=>ZF.fr (List.mem_append_left _ m)
  have hNr:Nrel sc.names (compEnvC sc cl (s.heap.push (lstOf [] 0)).objs.size f.env).scope.names:=Nrel.relabel ok2
  obtain ⟨kt,ht',hkt⟩:=hNr.slot x t .local ht
  have hkt:kt=.local:=hkt.elim id fun h=>nomatch h.1
  cases hkt
  have loop:=comp_loop (s:={ s with heap:=h₁,toks:=s.toks+([]:List (Str × Value)).length }) (it0:=it0) (px:=px) (pos:=pos) (sc:=sc) (n:=os.length) (D:=s.heap.objs.size) (RR:=RR (.ref s.heap.objs.size) (s.heap.push (lstOf [] 0)).objs.size) X.sm hh hNr.nd ht' (free_un hl et) (fun l=>hE ⟨_,l⟩ hNr rfl hcl') (fun l=>hI ⟨_,l⟩ hNr rfl hcl') H1 Z1 g1 I1 (by rw [List.length_append,H.len]; rfl)
    (by rw [← H.len,List.getElem?_append_right (Nat.le_refl _),Nat.sub_self]; rfl) rfl hr fun W' os' s' H' le' er hD sm'=>hRR _ _ W' os' s' H' ((leN W _).trans le') er hD ⟨sm'.1,sm'.2.1,sm'.2.2⟩
  exact codeAny_compStart_list loop (sat_self (s:={ s with heap:=h₁,toks:=s.toks+([]:List (Str × Value)).length }) g1 I1 loop)
end
end Mine
end
section
open PySem PySem.W PySem.Calls PyProof.Rows
set_option backward.match.sparseCases false
set_option tactic.hygienic false
namespace Mine
section
variable {C:Cx} {T:Tab} {cf:Nat→List V→List AO→R V} {K:Nat} {A:Around} {fs:List FrD} {f:FrD} {W:Wd} {os:List AO} {h:Heap} {s:Shared} {n:Nat}
noncomputable def compRes (T:Tab) (cf:Nat→List V→List AO→R V) (K:Nat) (l:List LV) (cit:List AO→R V) (fr:List (Option Nat)) (t:Nat) (cs:Exs) (e:Ex) (s:List AO):R V :=
  R.opt (compLoc l fr) fun l'=>(cit s).bind fun v s=>R.opt (srcOf s v) fun src=>compTurns src s.length (compBody T cf K l' t cs e) K 0 (s++[.list []])
theorem local_at {ns:Names} (nd:(ns.map (·.1)).Nodup) {y:Str} (m:(y,NameKind.local) ∈ ns):ns.lookup y=some .local:=by
  induction ns with
  | nil=>cases m
  | cons p r ih =>
    obtain ⟨z,k⟩:=p
    rw [List.map_cons,List.nodup_cons] at nd
    rw [List.lookup_cons]
    cases m with
    | head=>rw [beq_self_eq_true]
    | tail _ m =>
      have:(y == z)=false:=beq_eq_false_iff_ne.mpr fun q=>nd.1 (q ▸ List.mem_map.mpr ⟨(y,NameKind.local),m,rfl⟩)
      rw [this]; exact ih nd.2 m
theorem noFold {e:Expr} (h:isSet e=false) (env:Env) (y:Value):foldedSetIterable e env y=pure y:=by
  cases e<;>first | rfl | cases h
set_option tactic.hygienic true in
theorem sat_comp (X:CxOk C) (hh:A.handled=none ∨ K=0) {ns:Names} (hm:f ∈ fs) (hN:Nrel ns f.env.scope.names) {sc:Scope} (hok:compOk ns sc=true)
    {t:Nat} {x:Str} (ht:slotOf x sc.names 0=some (t,.local)) {e it0:Expr} {ifs:List Expr} {g:Expr→Ex} {px pos pos':Pos} {cit:List AO→R V} (hset:isSet it0=false)
    (hit:ES C A fs (eval it0 f.env) cit)
    (hE:∀ cf':FrD,Nrel sc.names cf'.env.scope.names→cf'.env.frame=f.env.frame→cf'.env.locals ∉ fs.map (·.env.locals)→ES C A (cf' :: fs) (eval e cf'.env) (evalE T cf K cf'.loc false (g e)))
    (hI:∀ cf':FrD,Nrel sc.names cf'.env.scope.names→cf'.env.frame=f.env.frame→cf'.env.locals ∉ fs.map (·.env.locals)→∀ c ∈ ifs,TS C A (cf' :: fs) (isTrue c cf'.env (eval c cf'.env)) (evalE T cf K cf'.loc true (g c)))
    {use:Option (Value→Sem Unit)} {Q:Value→Shared→Prop} {E:Value→Shared→Prop} (H:HR C fs W os s.heap)
    (hf:compRes T cf K f.loc cit (freeSlots ns sc.names) t (exsMap g ifs) (g e) os ≠ .fail)
    (hQ:∀ D cf' W' os' s' i,HR C (cf' :: fs) W' os' s'.heap→W.le W'→compRes T cf K f.loc cit (freeSlots ns sc.names) t (exsMap g ifs) (g e) os=.ok (.obj i) os'→W'.φ[i]?=some D→Sm s s' →
      compPost (model C.prog C.w) A E use Q (.ref D) cf'.env.locals (.ok .next) s')
    (hX:∀ v s',PX C fs W s (compRes T cf K f.loc cit (freeSlots ns sc.names) t (exsMap g ifs) (g e) os) v s'→E v s') :
    wpAny (model C.prog C.w) A (comprehension (.ListComp e [⟨.Name x px,it0,ifs,0⟩] sc pos) sc f.env pos' (newList []) false (eval it0 f.env) use) Q E s:=by
  generalize hr0:compRes T cf K f.loc cit (freeSlots ns sc.names) t (exsMap g ifs) (g e) os=r0 at hf hQ hX
  obtain ⟨l',hl,er⟩:=R.opt_is hr0 hf
  obtain ⟨ok1,ok2,ok3⟩:=compOk_spec hok
  obtain ⟨cl,ecl,hcl⟩:=compClos (H.frames f hm) hN hok hl
  refine wpAny_comprehension_free (use:=use) (cl:=cl) rfl (noFold hset f.env) ecl ok1 (fun y m ey=>by obtain ⟨y,k⟩:=y; cases (ey:k=.local); exact local_at ok2 m) ?_
  refine wpAny_mono (hit W os s H (bindP_fail (er ▸ hf))) ?_ ?_
  · rintro v s1 ⟨a,os1,W1,e1,le1,H1,q1,sm1⟩
    rw [e1] at er
    obtain ⟨src,es,er⟩:=R.opt_is (er:R.opt (srcOf os1 a) _=r0) hf
    have hh:A.handled=none:=hh.elim id fun h=>by
      subst h
      exact absurd er.symm hf
    refine wpAny_mono (sat_iter q1 H1 es) (fun y s2 hy=>?_) (fun _ _ x=>x)
    obtain ⟨it,o,rfl,H2,sm2,Z,gi,I⟩:=hy
    exact comp_core X hh hm hN hok hl ht hE hI hcl H2 Z gi I (er ▸ hf) (E:=E) (RR:=fun acc C'=>compPost (model C.prog C.w) A E use Q acc C') (it0:=it0) (px:=px) (pos:=pos)
      fun D cf' W' os' s' H' le' ed hD sm'=>hQ D cf' W' os' s' _ H' (le1.trans le') (er.symm.trans ed) hD ((sm1.trans sm2).trans sm')
  · rintro v s1 ⟨m,os1,W1,b,e1,rfl,le1,X1,sm1⟩
    rw [e1] at er
    exact hX _ _ ⟨m,os1,W1,b,er.symm,rfl,le1,X1,sm1⟩
theorem es_comp (X:CxOk C) (hh:A.handled=none ∨ K=0) {ns:Names} (hm:f ∈ fs) (hN:Nrel ns f.env.scope.names) {sc:Scope} (hok:compOk ns sc=true)
    {t:Nat} {x:Str} (ht:slotOf x sc.names 0=some (t,.local)) {e it0:Expr} {ifs:List Expr} {g:Expr→Ex} {px pos:Pos} {cit:List AO→R V} (hset:isSet it0=false)
    (hit:ES C A fs (eval it0 f.env) cit)
    (hE:∀ cf':FrD,Nrel sc.names cf'.env.scope.names→cf'.env.frame=f.env.frame→cf'.env.locals ∉ fs.map (·.env.locals)→ES C A (cf' :: fs) (eval e cf'.env) (evalE T cf K cf'.loc false (g e)))
    (hI:∀ cf':FrD,Nrel sc.names cf'.env.scope.names→cf'.env.frame=f.env.frame→cf'.env.locals ∉ fs.map (·.env.locals)→∀ c ∈ ifs,TS C A (cf' :: fs) (isTrue c cf'.env (eval c cf'.env)) (evalE T cf K cf'.loc true (g c))) :
    ES C A fs (eval (.ListComp e [⟨.Name x px,it0,ifs,0⟩] sc pos) f.env) (compRes T cf K f.loc cit (freeSlots ns sc.names) t (exsMap g ifs) (g e)):=by
  intro W os s H hf
  rw [eval_ListComp]
  refine sat_comp (use:=none) X hh hm hN hok ht hset hit hE hI H hf (fun D cf' W' os' s' i H' le' er hD sm'=>?_) fun _ _ h=>h
  obtain ⟨m,hn,_⟩:=(H'.frames cf' (.head _)).ns
  refine ⟨m,hn,fun h' sb=>⟨_,os',W',er,le',?_,.obj _ _ hD,sm'⟩⟩
  exact H'.popF.hid H'.popHid fun b o n e=>(sb.2 b n).trans e
end
noncomputable abbrev mkCode (Ca:Addr) (rest:List Value) (kw:List (Str × Value)):Code:=.builtin "type.__call__" ⟨.ref Ca :: rest,kw⟩
theorem BOk.under {A:Around} {d:Nat} (h:BOk A d) (Ca:Addr) (rest:List Value) (kw:List (Str × Value)):AOk (A.under (mkCode Ca rest kw)) d:=by
  have h1:(mkCode Ca rest kw).weight=1:=rfl
  have h2:(mkCode Ca rest kw).cUnits ≤ 10:=Nat.le_of_ble_eq_true (by kernel_rfl)
  refine ⟨?_,?_⟩
  · show A.depth+(mkCode Ca rest kw).weight+3 * d ≤ 800
    have:=h.depth; omega
  · show A.units+(mkCode Ca rest kw).cUnits+40 * d ≤ 9000
    have:=h.units; omega
noncomputable def NewSat (C:Cx) (Ca fI:Addr) (na nk:Nat):Prop:=∀ (A:Around) (s:Shared) (rest:List Value) (kw:List (Str × Value)) (R:Result→Shared→Prop),C.K.In s.heap→(∀ b o,C.h₀.get? b=some o→s.heap.get? b=some o)→A.depth ≤ 900→A.units ≤ 9000 →
  rest.length=na→kw.length=nk →
  (∀ h' x dx tk,(∀ b o,s.heap.get? b=some o→h'.get? b=some o)→s.heap.objs.size ≤ dx→dx < x→h'.get? dx=some emptyDict→h'.get? x=some (instObj Ca dx) →
    codeAny (model C.prog C.w) (A.under (mkCode Ca rest kw)) (.call (.ref fI) ⟨.ref x :: rest,kw⟩) (InitBack x R) { s with heap:=h',toks:=tk }) →
  codeAny (model C.prog C.w) A (.call (.ref Ca) ⟨rest,kw⟩) R s
theorem newSat_plain {C:Cx} {Ca fI:Addr} (hm:makesIn C.K Ca=true) (hi:findIn C.K (.ref Ca) "__init__"=some (some (.ref fI))) (hf:typeIn C.K (.ref fI)=some (.type "function")) {na nk:Nat}:NewSat C Ca fI na nk:=by
  intro A s rest kw R X _ _ _ _ _ h
  obtain ⟨hh,g,d,t,os⟩:=s
  refine make_core (makes_of X hm) (looks_findIn X hi) (fun self=>bind_fn X self hf) (.inl rfl) (h _ _ hh.objs.size t ?_ (Nat.le_refl _) (Nat.lt_succ_self _) ?_ ?_)
  · intro b o e; exact Heap.get?_push_of_some _ (Heap.get?_push_of_some _ e)
  · exact Heap.get?_push_of_some _ (Heap.get?_push_size _ rfl)
  · have:(hh.push emptyDict).objs.size=hh.objs.size+1:=Heap.size_push ..
    rw [← this]
    exact Heap.get?_push_size _ rfl
theorem dobj_empty {C:Cx} (h:Heap):DObj (strKind C.prog C.w) emptyDict ([]:List (Str × Value)):=by
  have:=Heap.DictOf.new (knd:=strKind C.prog C.w) h
  obtain ⟨o,g,z⟩:=DObj.of this
  rw [Heap.get?_push_size _ rfl] at g
  cases g
  exact z
section
variable {C:Cx} {T:Tab} {F:Fns} {cf:Nat→List V→List AO→R V} {K:Nat} {A:Around} {fs:List FrD} {f:FrD} {W:Wd} {os:List AO} {h:Heap} {s:Shared} {n d:Nat}
theorem evalEs_append {l:List LV} {g:Expr→Ex}:∀ (as bs:List Expr) (os:List AO),evalEs T cf K l (exsMap g (as++bs)) os=(evalEs T cf K l (exsMap g as) os).bind fun vs os=>(evalEs T cf K l (exsMap g bs) os).bind fun ws os=>.ok (vs++ws) os
  | [],bs,os=>by
    show evalEs T cf K l (exsMap g bs) os=(evalEs T cf K l (exsMap g bs) os).bind _
    cases evalEs T cf K l (exsMap g bs) os<;>rfl
  | a :: as,bs,os=>by
    show (evalE T cf K l false (g a) os).bind _=R.bind ((evalE T cf K l false (g a) os).bind _) _
    cases evalE T cf K l false (g a) os with
    | fail=>rfl
    | exc m os=>rfl
    | ok v os =>
      show (evalEs T cf K l (exsMap g (as++bs)) os).bind _=R.bind ((evalEs T cf K l (exsMap g as) os).bind _) _
      rw [evalEs_append as bs os]
      cases evalEs T cf K l (exsMap g as) os with
      | fail=>rfl
      | exc m os=>rfl
      | ok vs os =>
        dsimp only [R.bind]
        cases evalEs T cf K l (exsMap g bs) os<;>rfl
theorem sat_kwAll {l:List LV} {env:Env} {pos:Pos} {g:Expr→Ex}:∀ {ks:List Keyword},(∀ k ∈ ks,ES C A fs (eval k.value env) (evalE T cf K l false (g k.value)))→∀ W os s,HR C fs W os s.heap →
    Sat C A (evalAll ((backToKw pos (keywordEach ks env)).map (·.2))) VRs fs W (evalEs T cf K l (exsMap g (ks.map (·.value))) os) s
  | [],_,W,os,s,H=>Sat.pure H .nil
  | ⟨nm,v,p⟩ :: ks,h,W,os,s,H=>by
    show Sat C A ((do let v ← eval v env; standAt pos; Pure.pure v) >>= fun v=>holding [v] (evalAll ((backToKw pos (keywordEach ks env)).map (·.2))) >>= fun r=>Pure.pure (v :: r)) VRs fs W
      ((evalE T cf K l false (g v) os).bind fun v s=>(evalEs T cf K l (exsMap g (ks.map (·.value))) s).bind fun vs s=>.ok (v :: vs) s) s
    rw [bind_assoc]
    refine Sat.bind (h _ (.head _) W os s H) fun a os1 W1 x s1 le1 H1 q1=>?_
    rw [bind_assoc]
    refine Sat.standAt (Sat.bindP ?_)
    refine Sat.bind (Sat.holding (sat_kwAll (fun k m=>h k (.tail _ m)) W1 os1 s1 H1)) fun vs os2 W2 xs s2 le2 H2 q2=>?_
    exact Sat.pure H2 (.cons (q1.mono le2) q2)
noncomputable def kwNames (ks:List Keyword):List Str:=ks.filterMap (·.arg)
theorem kwNames_length:∀ (ks:List Keyword),ks.all (·.arg.isSome)=true→(kwNames ks).length=ks.length
  | [],_=>rfl
  | ⟨nm,v,p⟩ :: ks,h=>by
    rw [List.all_cons,Bool.and_eq_true] at h
    cases nm with
    | none=>cases h.1
    | some x =>
      show (x :: kwNames ks).length=_
      rw [List.length_cons,List.length_cons,kwNames_length ks h.2]
theorem kw_names {pos:Pos} {env:Env}:∀ (ks:List Keyword),(backToKw pos (keywordEach ks env)).filterMap (·.1)=kwNames ks
  | []=>rfl
  | ⟨none,v,p⟩ :: ks=>by
    show List.filterMap _ (_ :: backToKw pos (keywordEach ks env))=_
    unfold kwNames
    rw [List.filterMap_cons,List.filterMap_cons]
    exact kw_names ks
  | ⟨some x,v,p⟩ :: ks=>by
    show List.filterMap _ (_ :: backToKw pos (keywordEach ks env))=_
    unfold kwNames
    rw [List.filterMap_cons,List.filterMap_cons]
    exact congrArg (x :: ·) (kw_names ks)
theorem kw_some {pos:Pos} {env:Env}:∀ (ks:List Keyword),ks.all (·.arg.isSome)=true→(backToKw pos (keywordEach ks env)).all (·.1.isSome)=true
  | [],_=>rfl
  | ⟨none,v,p⟩ :: ks,h=>by simp at h
  | ⟨some x,v,p⟩ :: ks,h=>by
    rw [List.all_cons] at h
    show List.all (_ :: backToKw pos (keywordEach ks env)) _=true
    rw [List.all_cons]
    exact kw_some ks (by simpa using h)
theorem evalArgs_kw {es:List Expr} {ks:List Keyword} {pos:Pos} {env:Env} {f:Value} (hk:ks.all (·.arg.isSome)=true) :
    evalArgs f true (es.map fun e=>(false,eval e env)) (backToKw pos (keywordEach ks env))=(do
    let ps ← spliced (es.map fun e=>(false,eval e env))
    holding ps (do let kw ← evalAll ((backToKw pos (keywordEach ks env)).map (·.2)); Pure.pure ⟨ps,(kwNames ks).zip kw⟩)):=by
  have key:∀ (ts:List (Bool × Sem Value)),ts.all (!·.1)=true→evalArgs f true ts (backToKw pos (keywordEach ks env))=(do
      let ps ← spliced ts
      holding ps (do let kw ← evalAll ((backToKw pos (keywordEach ks env)).map (·.2)); Pure.pure ⟨ps,(kwNames ks).zip kw⟩)):=by
    intro ts h
    unfold evalArgs
    rw [kw_some ks hk,kw_names]
    match ts,h with
    | [],_=>simp
    | [(false,x)],_=>simp
    | [(true,x)],h=>simp at h
    | a :: b :: r,_=>simp
  exact key _ (by simp)
structure NewOk (C:Cx) (T:Tab) (F:Fns) (Ca:Addr) (c:Nat) (ks:List Nat) (kn:List Str) (na:Nat):Prop where
  cls:C.cls c=some Ca
  keep:KeepOk C (.ref Ca)
  init:∀ g fn,T.init c=some g→T.fns g=some fn→∃ fI fd,F.fv g=some fI∧F.fd g=some fd∧NewSat C Ca fI na ks.length ∧
    ∀ W vs xs s v0 x0,C.K.In s.heap→VRs W vs xs→VR W v0 x0→vs.length=na+ks.length→(initArgs (fn.params.length - 1) fn.defaults vs ks).all (·.isSome)=true →
      ∃ ys,VRs W (v0 :: (initArgs (fn.params.length - 1) fn.defaults vs ks).filterMap id) ys∧bindArgs fn (v0 :: (initArgs (fn.params.length - 1) fn.defaults vs ks).filterMap id)=some (v0 :: (initArgs (fn.params.length - 1) fn.defaults vs ks).filterMap id) ∧
        BindsTo s fd ⟨x0 :: xs.take na,kn.zip (xs.drop na)⟩ ((F.pn g).zip ys)
theorem evalEs_length {l:List LV} {g:Expr→Ex}:∀ (es:List Expr) {os os':List AO} {vs:List V},evalEs T cf K l (exsMap g es) os=.ok vs os'→vs.length=es.length
  | [],os,os',vs,e=>by cases e; rfl
  | a :: es,os,os',vs,e=>by
    have e:(evalE T cf K l false (g a) os).bind (fun v s=>(evalEs T cf K l (exsMap g es) s).bind fun vs s=>.ok (v :: vs) s)=.ok vs os':=e
    cases e1:evalE T cf K l false (g a) os with
    | fail=>rw [e1] at e; cases e
    | exc m s=>rw [e1] at e; cases e
    | ok v s =>
      rw [e1] at e
      have e:(evalEs T cf K l (exsMap g es) s).bind (fun vs s=>.ok (v :: vs) s)=.ok vs os':=e
      cases e2:evalEs T cf K l (exsMap g es) s with
      | fail=>rw [e2] at e; cases e
      | exc m s=>rw [e2] at e; cases e
      | ok ws s2 =>
        rw [e2] at e
        cases e
        rw [List.length_cons,List.length_cons,evalEs_length es e2]
theorem sat_kwArgs {f:FrD} {es:List Expr} {ks:List Keyword} {g:Expr→Ex} {l:List LV} {pos:Pos} (he:∀ e ∈ es,ES C A fs (eval e f.env) (evalE T cf K l false (g e))) (hke:∀ k ∈ ks,ES C A fs (eval k.value f.env) (evalE T cf K l false (g k.value))) (H:HR C fs W os s.heap) :
    Sat C A (do
      let ps ← spliced (es.map fun e=>(false,eval e f.env))
      holding ps (do let kw ← evalAll ((backToKw pos (keywordEach ks f.env)).map (·.2)); Pure.pure (⟨ps,(kwNames ks).zip kw⟩:Args))) (fun W vs a=>∃ xs ys,a=⟨xs,(kwNames ks).zip ys⟩∧VRs W vs (xs++ys)∧xs.length=es.length) fs W (evalEs T cf K l (exsMap g (es++ks.map (·.value))) os) s:=by
  rw [evalEs_append]
  refine Sat.bind (ls_exs he W os s H).told fun vs os1 W1 xs s1 le1 H1 q1=>Sat.holding ?_
  obtain ⟨q1,os2,e1⟩:=q1
  exact Sat.bind (sat_kwAll hke W1 os1 s1 H1) fun ws os2 W2 ys s2 le2 H2 q2=>Sat.pure H2 ⟨xs,ys,rfl,(q1.mono le2).append q2,q1.length.trans (evalEs_length es e1)⟩
theorem HR.inst2 (H:HR C fs W os h) {h':Heap} {c:Nat} {Ca ix dx:Addr} (hc:C.cls c=some Ca) (hk':∀ b o,h.get? b=some o→h'.get? b=some o) (l1:h.objs.size ≤ dx) (l2:dx < ix) (g1:h'.get? dx=some emptyDict) (g2:h'.get? ix=some (instObj Ca dx)) :
    ∃ W2,W.le W2∧HR C fs W2 (os++[.attrs [],.inst c os.length]) h'∧W2.φ[os.length+1]?=some ix:=by
  have Hk:=H.keeps hk'
  have f1:∀ a,h.objs.size ≤ a→a ∉ fs.map (·.env.locals)++W.φ∧C.h₀.get? a=none∧∀ p ∈ W.kp,p.1 ≠ a:=fun a ha=>⟨(Hid.fresh H ha).fr,(Hid.fresh H ha).base,(Hid.fresh H ha).kp⟩
  obtain ⟨a1,a2,a3⟩:=f1 dx l1
  obtain ⟨b1,b2,b3⟩:=f1 ix (Nat.le_trans l1 (Nat.le_of_lt l2))
  have Hd:=Hk.adopt (ao:=.attrs []) g1 (.attrs [] [] _ .nil (dobj_empty h')) a1 a2 a3
  have ed:(W.φ++[dx])[os.length]?=some dx:=by rw [← H.len,List.getElem?_append_right (Nat.le_refl _),Nat.sub_self]; rfl
  have ed2:(W.φ++[dx]++[ix])[os.length]?=some dx:=by rw [List.getElem?_append_left (by rw [List.length_append,H.len]; exact Nat.lt_succ_self _)]; exact ed
  have Hx:=Hd.adopt (ao:=.inst c os.length) g2 (.inst c os.length Ca dx hc ed2) (by
    intro m
    rw [← List.append_assoc] at m
    rcases List.mem_append.mp m with m | m
    · exact b1 m
    · exact absurd (List.mem_singleton.mp m) (Nat.ne_of_gt l2)) b2 b3
  rw [show os++[AO.attrs []]++[AO.inst c os.length]=os++[AO.attrs [],AO.inst c os.length] from List.append_assoc ..] at Hx
  refine ⟨⟨W.φ++[dx]++[ix],W.kp⟩,⟨?_,fun _ m=>m⟩,Hx,?_⟩
  · show W.φ <+: W.φ++[dx]++[ix]
    rw [List.append_assoc]; exact List.prefix_append _ _
  · show (W.φ++[dx]++[ix])[os.length+1]?=_
    rw [List.getElem?_append_right (by rw [List.length_append,H.len]; exact Nat.le_refl _),List.length_append,H.len]
    show [ix][os.length+1 - (os.length+1)]?=_
    rw [Nat.sub_self]; rfl
theorem noneOnly_is {r:R V} {x:V} (h:r.noneOnly x ≠ .fail):∃ os,r=.ok .none os:=by
  cases r with
  | ok v os=>cases v<;>first | exact ⟨os,rfl⟩ | exact absurd rfl h
  | _=>exact absurd rfl h
theorem new_core (X:CxOk C) (hF:FnSat C T cf F d) (hA:BOk A d) (hh:A.handled=none ∨ T.hd=true) (hfr:A.frames=some (reals fs)) {c na:Nat} {Ca:Addr} {kl:List Nat} {kn:List Str} (hn:NewOk C T F Ca c kl kn na)
    {vs:List V} {xs ys:List Value} (q1:VRs W vs (xs++ys)) (hlen:xs.length=na) (hvl:vs.length=na+kl.length) (hkn:kn.length=kl.length) (H:HR C fs W os s.heap):Sat C A (call (.ref Ca) ([]++xs) (kn.zip ys)) VR fs W (newOf T cf c kl vs os) s:=by
  refine Sat.opt fun gi ei=>Sat.opt fun fn ef=>Sat.ite fun ha=>fun hf=>?_
  obtain ⟨fI,fd,n1,n2,n3,n4⟩:=hn.init gi fn ei ef
  have hyl:ys.length=kl.length:=by
    have e2:=q1.length
    rw [List.length_append,hlen,hvl] at e2
    exact Nat.add_left_cancel e2
  refine wpAny_call (n3 A s ([]++xs) _ _ (H.kin X) H.base (by have:=hA.depth; omega) (by have:=hA.units; omega) hlen (by rw [List.length_zip,hkn,hyl,Nat.min_self]) fun h' ix dx tk hk' l1 l2 g1 g2=>?_)
  obtain ⟨W2,leX,Hx,eix⟩:=H.inst2 hn.cls hk' l1 l2 g1 g2
  have hv0:VR W2 (.obj (os.length+1)) (.ref ix):=.obj _ _ eix
  obtain ⟨zs,z1,z2,z3⟩:=n4 W2 vs (xs++ys) { s with heap:=h',toks:=tk } _ _ (Hx.kin (s:={ s with heap:=h',toks:=tk }) X) (q1.mono leX) hv0 hvl ha
  rw [← hlen,List.take_left,List.drop_left] at z3
  obtain ⟨os2,er⟩:=noneOnly_is hf
  refine codeAny_mono (hF gi fn fI fd ef n1 n2 (A.under (mkCode Ca ([]++xs) (kn.zip ys))) fs W2 _ { s with heap:=h',toks:=tk } _ ⟨.ref ix :: xs,kn.zip ys⟩ (hA.under Ca _ _) hh hfr Hx (fun ws hw=>by rw [z2] at hw; cases hw; exact ⟨zs,z1,z3⟩) (by rw [er]; exact fun q=>nomatch q)) fun r s' hrx=>?_
  rw [er] at hrx ⊢
  rcases r with e | (_ | _ | _ | v)
  · exact hrx.notOk.elim
  · exact hrx.elim
  · exact hrx.elim
  · exact hrx.elim
  · obtain ⟨v',o2,W3,e,le3,H3,q3,sm3⟩:=hrx
    cases e
    cases q3
    exact ⟨rfl,_,os2,W3,rfl,leX.trans le3,H3,.obj _ _ (le3.at eix),⟨sm3.1,sm3.2.1,sm3.2.2⟩⟩
theorem es_newC (X:CxOk C) (hF:FnSat C T cf F d) (hA:BOk A d) (hh:A.handled=none ∨ T.hd=true) (hfr:A.frames=some (reals fs)) (hm:f ∈ fs) {x:Str} {p pos:Pos} {c:Nat} {Ca:Addr} {es:List Expr} {ks:List Keyword} {kl:List Nat} {g:Expr→Ex} {l:List LV}
    (hs:anyStar es=false) (hk:ks.all (·.arg.isSome)=true) (hkl:kl.length=ks.length) (hg:glob f.env.scope.names x=true) (ho:okName x=true) (hv:C.mg x=some (.ref Ca)) (hn:NewOk C T F Ca c kl (kwNames ks) es.length)
    (he:∀ e ∈ es,ES C A fs (eval e f.env) (evalE T cf K l false (g e))) (hke:∀ k ∈ ks,ES C A fs (eval k.value f.env) (evalE T cf K l false (g k.value))) :
    ES C A fs (eval (.Call (.Name x p) es ks pos) f.env) (fun os=>(evalEs T cf K l (exsMap g (es++ks.map (·.value))) os).bind fun vs s=>newOf T cf c kl vs s):=by
  intro W os s H hf
  rw [arm_eval_Call_Name',backTo_star hs]
  refine wpAny_bind (wp_global X H hm hg ho (.inl hv) ?_)
  have hstar:((es.map fun e=>(false,eval e f.env)).any (·.1) || (backToKw pos (keywordEach ks f.env)).any (·.1.isNone))=false:=by
    have h1:((es.map fun e=>(false,eval e f.env)).any (·.1))=false:=by simp
    rw [h1,Bool.false_or,List.any_eq_false]
    intro q m
    have:=List.all_eq_true.mp (kw_some (pos:=pos) (env:=f.env) ks hk) q m
    rw [Option.isNone_eq_false_iff.mpr this]
    exact Bool.false_ne_true
  refine callWith_of (P:=C.K.In) hstar hn.keep ?_
  rw [evalArgs_kw hk]
  refine Sat.andThen (Z:=fun s'=>C.K.In s'.heap) (sat_kwArgs he hke H).told (fun vs os1 W1 a s1 le1 H1 q=>⟨H1.kin X,?_⟩) hf
  obtain ⟨⟨xs,ys,rfl,q1,hlen⟩,os2,e1⟩:=q
  exact new_core X hF hA hh hfr hn q1 hlen (by rw [evalEs_length _ e1,List.length_append,List.length_map,hkl]) (by rw [kwNames_length ks hk,hkl]) H1
end
structure Ctx (C:Cx) (N:Nm) (T:Tab) (F:Fns) (cf:Nat→List V→List AO→R V) (K:Nat) (A:Around) (d:Nat):Prop where
  X:CxOk C
  hT:TabOk C T F
  hG:GlobOk C N T F
  hF:FnSat C T cf F d
  hA:BOk A d
  hh:A.handled=none ∨ T.hd=true∧K=0
  nm:C.nm=N.an
  newS:∀ x,posOf x N.cn 0=some 1→∃ Ca,C.mg x=some (.ref Ca)∧NewOk C T F Ca 1 [] [] 1
  newL:∀ x,posOf x N.cn 0=some 0→∃ Ca,C.mg x=some (.ref Ca)∧NewOk C T F Ca 0 [2,3] ["posix","punctuation_chars"] 1
noncomputable def FrIn (f:FrD) (fs:List FrD):Prop:=∃ L,f.env.frame=some L∧L ∈ fs.map (·.env.locals)
noncomputable def Both (C:Cx) (T:Tab) (cf:Nat→List V→List AO→R V) (K:Nat) (A:Around) (fs:List FrD) (f:FrD) (e:Expr) (x:Ex):Prop :=
  ES C A fs (eval e f.env) (evalE T cf K f.loc false x)∧TS C A fs (isTrue e f.env (eval e f.env)) (evalE T cf K f.loc true x)
theorem posOf_spec {x:Str} (l:List Str):∀ (n i:Nat),posOf x l n=some i→n ≤ i∧l[i - n]?=some x:=by
  induction l with
  | nil=>exact fun _ _ e=>noSome e
  | cons y r ih =>
    intro n i e
    have e:(if (x == y)=true then some n else posOf x r (n+1))=some i:=e
    cases h:x == y with
    | true =>
      rw [h,if_pos rfl] at e
      rw [← Option.some.inj e,Nat.sub_self,eq_of_beq h]
      exact ⟨Nat.le_refl _,rfl⟩
    | false =>
      rw [h,if_neg Bool.false_ne_true] at e
      obtain ⟨a,b⟩:=ih _ _ e
      rw [idx_succ a]
      exact ⟨Nat.le_of_succ_le a,b⟩
section
variable {C:Cx} {N:Nm} {T:Tab} {F:Fns} {cf:Nat→List V→List AO→R V} {K:Nat} {A:Around} {fs:List FrD} {f:FrD} {d:Nat}
theorem both_bad {e:Expr}:Both C T cf K A fs f e .bad:=⟨fun _ _ _ _=>Sat.fail,fun _ _ _ _=>Sat.fail⟩
theorem both_of {e:Expr} {x:Ex} (hd:isTrue e f.env (eval e f.env)=(do let v ← eval e f.env; standAt e.pos; holding [v] (truthy v))) (hx:∀ os,evalE T cf K f.loc true x os=fin true (evalE T cf K f.loc false x os))
    (h:ES C A fs (eval e f.env) (evalE T cf K f.loc false x)):Both C T cf K A fs f e x:=by
  refine ⟨h,?_⟩
  have:evalE T cf K f.loc true x=fun os=>fin true (evalE T cf K f.loc false x os):=funext hx
  rw [this]
  exact ts_of hd h
theorem reals_comp {cf':FrD} (h:FrIn f fs) (h1:cf'.env.frame=f.env.frame) (h2:cf'.env.locals ∉ fs.map (·.env.locals)):reals (cf' :: fs)=reals fs∧FrIn cf' (cf' :: fs):=by
  obtain ⟨L,e1,e2⟩:=h
  refine ⟨?_,L,h1.trans e1,List.mem_cons_of_mem _ e2⟩
  unfold reals
  have:FrD.real cf'=false:=by
    unfold FrD.real
    rw [h1,e1]
    rw [beq_eq_false_iff_ne]
    intro q
    cases q
    exact h2 e2
  rw [List.filter_cons,this]
  rfl
set_option tactic.hygienic true in
theorem Nrel.glob {ns ns':Names} (h:Nrel ns ns') {x:Str} (g:glob ns x=true):glob ns' x=true:=by
  unfold Mine.glob at g
  split at g
  · rename_i i e
    obtain ⟨k',e',hk⟩:=h.slot x i _ e
    have:k'=.globalImplicit:=by rcases hk with e | ⟨e,_⟩<;>first | exact e | cases e
    subst this
    unfold Mine.glob
    rw [e']
  · cases g
theorem bo_eq (o:BoolOp):(if (o == .And)=true then BoolOp.And else BoolOp.Or)=o:=by cases o<;>rfl
theorem Both.opt {α:Type} {e:Expr} {o:Option α} {g:α→Ex} (h:∀ a,o=some a→Both C T cf K A fs f e (g a)):Both C T cf K A fs f e (Ex.opt o g):=by
  cases o with
  | none=>exact both_bad
  | some a=>exact h a rfl
theorem Both.iff {e:Expr} {b:Bool} {x:Ex} (h:b=true→Both C T cf K A fs f e x):Both C T cf K A fs f e (Ex.iff b x):=by
  cases b with
  | false=>exact both_bad
  | true=>exact h rfl
theorem not_of {b:Bool} (h:(!b)=true):b=false:=by cases b<;>first | rfl | exact noTrue h
theorem name_of {e:Expr} {x:Str} (h:nameOf e=some x):∃ p,e=.Name x p:=by
  cases e<;>first | exact noSome h | (cases h; exact ⟨_,rfl⟩)
theorem strC_of {e:Expr} {x:Str} (h:strC e=some x):∃ k p,e=.Constant (.str x) k p:=by
  cases e with
  | Constant c k p=>cases c<;>first | exact noSome h | (cases h; exact ⟨_,_,rfl⟩)
  | _=>exact noSome h
theorem intC_of {e:Expr} {x:Int} (h:intC e=some x):∃ k p,e=.Constant (.int x) k p:=by
  cases e with
  | Constant c k p=>cases c<;>first | exact noSome h | (cases h; exact ⟨_,_,rfl⟩)
  | _=>exact noSome h
theorem isLoc_of {k:NameKind} (h:isLoc k=true):k=.local:=by cases k<;>first | rfl | exact noTrue h
theorem star1 {a:Expr} {as:List Expr} (h:anyStar (a :: as)=false):isStar a=false:=by
  unfold anyStar at h
  rw [List.any_cons] at h
  exact (Bool.or_eq_false_iff.mp h).1
theorem constV_str {x:Str} {v:V} (h:constV (.str x)=some v):x.cps.toList.length ≤ lim∧V.str x.cps.toList=v:=iteSome h
theorem both_const (c:Const) (k:Nat) (pos:Pos):Both C T cf K A fs f (.Constant c k pos) (Ex.opt (constV c) .lit):=by
  refine Both.opt fun v e=>?_
  cases c with
  | none=>cases e; exact both_of rfl (fun _=>rfl) es_none
  | bool b=>cases e; exact both_of rfl (fun _=>rfl) es_bool
  | int i=>cases e; exact both_of rfl (fun _=>rfl) es_int
  | str x=>obtain ⟨hx,rfl⟩:=constV_str e; exact both_of rfl (fun _=>rfl) (es_str hx)
  | _=>exact noSome e
theorem both_name (Q:Ctx C N T F cf K A d) {ns:Names} (hm:f ∈ fs) (hN:Nrel ns f.env.scope.names) (x:Str) (pos:Pos):Both C T cf K A fs f (.Name x pos) (nameE ns x):=by
  refine Both.opt fun p e=>Both.iff fun ho=>?_
  obtain ⟨i,k⟩:=p
  obtain ⟨k',e',hk⟩:=hN.slot x i k e
  cases hl:isLocal k with
  | true =>
    refine both_of rfl (fun _=>rfl) (es_loc hm e' ?_ ho)
    cases hk with
    | inl h=>cases h; exact hl
    | inr h=>cases h.2; rfl
  | false=>exact Both.iff fun hg=>Both.opt fun t et=>both_of rfl (fun _=>rfl) (es_typ Q.X hm (hN.glob hg) ho (Q.hG.typ x t et))
theorem both_attr (Q:Ctx C N T F cf K A d) (hfr:A.frames=some (reals fs)) {e:Expr} {c:Ex} (E1:ES C A fs (eval e f.env) (evalE T cf K f.loc false c)) (a:Str) (pos:Pos) :
    Both C T cf K A fs f (.Attribute e a pos) (Ex.opt (posOf a N.an 0) fun i=>Ex.iff (!bareCall e) (.attr c i)) :=
  Both.opt fun i ei=>Both.iff fun hb=>both_of rfl (fun _=>rfl) (es_attr Q.X Q.hT Q.hF Q.hA (Q.hh.elim .inl fun h=>.inr h.1) hfr (not_of hb) (by rw [Q.nm]; exact (posOf_spec _ _ _ ei).2) E1)
section
variable {r:Expr→Ex} (E1:∀ e,ES C A fs (eval e f.env) (evalE T cf K f.loc false (r e)))
include E1
theorem both_callA (Q:Ctx C N T F cf K A d) {ns:Names} (hm:f ∈ fs) (hN:Nrel ns f.env.scope.names) (hfr:A.frames=some (reals fs)) {o:Expr} {m:Str} {ap pos:Pos} {as:List Expr}
    (hb:bareCall o=false) (hs:anyStar as=false) (hl:as.length ≤ 20) (hp:(ap.endLine == pos.line)=true):Both C T cf K A fs f (.Call (.Attribute o m ap) as [] pos) (callA N ns r o m as):=by
  have hh:A.handled=none ∨ T.hd=true:=Q.hh.elim .inl fun h=>.inr h.1
  have L1:LS C A fs (as.map fun e=>(false,eval e f.env)) (evalEs T cf K f.loc (exsMap r as)):=ls_exs fun e _=>E1 e
  unfold callA
  cases eb:bmOf m with
  | some b=>exact both_of rfl (fun _=>rfl) (es_bm Q.X Q.hA hh eb hs hb hl hp (E1 o) L1)
  | none=>cases em:m == ("fromkeys":Str) with
    | false=>exact Both.opt fun i ei=>both_of rfl (fun _=>rfl) (es_callM Q.X Q.hT Q.hF Q.hA hh hfr (by rw [Q.nm]; exact (posOf_spec _ _ _ ei).2) hs hb hl hp (E1 o) L1)
    | true =>
      refine Both.opt fun x ex=>Both.opt fun a ea=>Both.iff fun hx=>?_
      cases eq_of_beq em
      obtain ⟨px,rfl⟩:=name_of ex
      cases one_is ea
      obtain ⟨hx1,hx2⟩:=and_of hx
      cases eq_of_beq hx1
      exact both_of rfl (fun _=>rfl) (es_fromkeys Q.X Q.hG Q.hA hh hm (star1 hs) (hN.glob hx2) hp (E1 a))
theorem both_callN (Q:Ctx C N T F cf K A d) {ns:Names} (hm:f ∈ fs) (hN:Nrel ns f.env.scope.names) (hfr:A.frames=some (reals fs)) {x:Str} {p pos:Pos} {as:List Expr}
    (hg:glob ns x=true) (ho:okName x=true) (hs:anyStar as=false):Both C T cf K A fs f (.Call (.Name x p) as [] pos) (callN N ns r x as):=by
  have hh:A.handled=none ∨ T.hd=true:=Q.hh.elim .inl fun h=>.inr h.1
  have L1:LS C A fs (as.map fun e=>(false,eval e f.env)) (evalEs T cf K f.loc (exsMap r as)):=ls_exs fun e _=>E1 e
  have hg:=hN.glob hg
  unfold callN
  cases eb:biOf x with
  | some b=>exact both_of rfl (fun _=>rfl) (es_biCall Q.X Q.hG Q.hA hh hm hs hg ho eb L1)
  | none=>cases ei:x == ("isinstance":Str) with
    | true =>
      refine Both.opt fun a ea=>?_
      cases eq_of_beq ei
      cases as with
      | nil=>exact noSome ea
      | cons b as =>
        obtain ⟨c,e1,e2⟩:=bindSome ea
        obtain ⟨y,e3,e4⟩:=bindSome e2
        obtain ⟨hy,rfl⟩:=iteSome e4
        cases one_is e1
        obtain ⟨py,rfl⟩:=name_of e3
        obtain ⟨hy1,hy2⟩:=and_of hy
        cases eq_of_beq hy1
        exact both_of rfl (fun _=>rfl) (es_isStr Q.X Q.hG Q.hA hm (star1 hs) hg (hN.glob hy2) (E1 b))
    | false=>cases ed:x == ("deque":Str) with
      | true=>cases eq_of_beq ed; exact both_of rfl (fun _=>rfl) (es_dequeCall Q.X Q.hG Q.hA hm hs hg L1)
      | false=>cases ef:posOf x N.fn 0 with
        | some g=>exact both_of rfl (fun _=>rfl) (es_callF Q.X Q.hT Q.hG Q.hF Q.hA hh hfr hm hs hg ho ef L1)
        | none =>
          refine Both.opt fun k ec=>Both.iff fun hk=>?_
          obtain ⟨hk,hl⟩:=and_of hk
          cases eq_of_beq hk
          obtain ⟨Ca,v1,v2⟩:=Q.newS x ec
          have v2:NewOk C T F Ca 1 [] [] as.length:=by rw [(eq_of_beq hl:as.length=1)]; exact v2
          exact both_of rfl (fun _=>rfl) (es_newC (ks:=[]) Q.X Q.hF Q.hA hh hfr hm hs rfl rfl hg ho v1 v2 (fun e _=>E1 e) fun k m=>nomatch m)
theorem both_callK (Q:Ctx C N T F cf K A d) {ns:Names} (hm:f ∈ fs) (hN:Nrel ns f.env.scope.names) (hfr:A.frames=some (reals fs)) {x:Str} {p pos:Pos} {as:List Expr} {ks:List Keyword}
    (hg:glob ns x=true) (ho:okName x=true) (hs:anyStar as=false):Both C T cf K A fs f (.Call (.Name x p) as ks pos) (callK N r x as ks):=by
  have hh:A.handled=none ∨ T.hd=true:=Q.hh.elim .inl fun h=>.inr h.1
  refine Both.iff fun hc=>Both.opt fun k ec=>Both.iff fun hk=>?_
  cases eq_of_beq hk
  obtain ⟨hc,hl⟩:=and_of hc
  obtain ⟨hc,hkl⟩:=and_of hc
  obtain ⟨hk,hn⟩:=and_of hc
  obtain ⟨Ca,v1,v2⟩:=Q.newL x ec
  rw [← (eq_of_beq hl:as.length=1),← (eq_of_beq hn:ks.filterMap (·.arg)=_)] at v2
  exact both_of rfl (fun _=>rfl) (es_newC (ks:=ks) Q.X Q.hF Q.hA hh hfr hm hs hk (eq_of_beq hkl).symm (hN.glob hg) ho v1 v2 (fun e _=>E1 e) fun k _=>E1 k.value)
theorem both_call (Q:Ctx C N T F cf K A d) {ns:Names} (hm:f ∈ fs) (hN:Nrel ns f.env.scope.names) (hfr:A.frames=some (reals fs)) (fn:Expr) (as:List Expr) (ks:List Keyword) (pos:Pos):Both C T cf K A fs f (.Call fn as ks pos) (callE N ns r as ks pos fn):=by
  cases fn with
  | Attribute o m ap=>cases ks with
    | cons _ _=>exact both_bad
    | nil =>
      refine Both.iff fun hc=>?_
      obtain ⟨hc,hp⟩:=and_of hc
      obtain ⟨hc,hl⟩:=and_of hc
      obtain ⟨hb,hs⟩:=and_of hc
      exact both_callA E1 Q hm hN hfr (not_of hb) (not_of hs) (of_decide_eq_true hl) hp
  | Name x p =>
    refine Both.iff fun hc=>?_
    obtain ⟨hc,hs⟩:=and_of hc
    obtain ⟨hg,ho⟩:=and_of hc
    cases ks with
    | nil=>exact both_callN E1 Q hm hN hfr hg ho (not_of hs)
    | cons k ks=>exact both_callK E1 Q hm hN hfr hg ho (not_of hs)
  | _=>exact both_bad
theorem both_sub (a i:Expr) (pos:Pos):Both C T cf K A fs f (.Subscript a i pos) (match sliceOf i with
      | some p=>.slice (r a) (optMap r p.1) (optMap r p.2)
      | none=>.idx (r a) (r i)):=by
  cases e:sliceOf i with
  | none=>exact both_of rfl (fun _=>rfl) (es_idx (fun l u p q=>by rw [q] at e; cases e) (E1 a) (E1 i))
  | some p =>
    cases i with
    | Slice lo hi st q=>cases st with
      | none =>
        cases e
        have opt:∀ o:Option Expr,ES C A fs (valueOrNone (evalOpt o f.env)) (evalE T cf K f.loc false (optMap r o)):=by
          intro o
          cases o with
          | none=>exact es_opt_none
          | some e=>exact es_opt_some (E1 e)
        exact both_of rfl (fun _=>rfl) (es_slice (E1 a) (opt lo) (opt hi))
      | some _=>exact noSome e
    | _=>exact noSome e
theorem both_comp (Q:Ctx C N T F cf K A d) {ns:Names} (hm:f ∈ fs) (hN:Nrel ns f.env.scope.names) {g:Expr→Ex} {sc:Scope} (e:Expr) (gs:List Comprehension) (pos:Pos)
    (G:∀ (e:Expr) (cf':FrD),Nrel sc.names cf'.env.scope.names→cf'.env.frame=f.env.frame→cf'.env.locals ∉ fs.map (·.env.locals)→Both C T cf K A (cf' :: fs) cf' e (g e)) :
    Both C T cf K A fs f (.ListComp e gs sc pos) (compE ns r g e gs sc):=by
  refine Both.opt fun c ec=>Both.opt fun x ex=>Both.iff fun ea=>Both.opt fun p ht=>Both.iff fun hc=>?_
  cases one_is ec
  obtain ⟨tg,it,ifs,ia⟩:=c
  obtain ⟨px,rfl⟩:=name_of ex
  cases (eq_of_beq ea:ia=0)
  obtain ⟨t,k⟩:=p
  obtain ⟨hc,hset⟩:=and_of hc
  obtain ⟨hl,hok⟩:=and_of hc
  cases isLoc_of hl
  have h1:=es_comp (T:=T) (cf:=cf) (K:=K) (px:=px) (pos:=pos) (g:=g) (ifs:=ifs) (e:=e) Q.X (Q.hh.elim .inl fun h=>.inr h.2) hm hN hok ht (not_of hset) (E1 it)
    (fun cf' h2 h3 h4=>(G e cf' h2 h3 h4).1) (fun cf' h2 h3 h4 c _=>(G c cf' h2 h3 h4).2)
  refine both_of rfl (fun os=>?_) h1
  show R.opt (compLoc f.loc (freeSlots ns sc.names)) _=fin true (R.opt (compLoc f.loc (freeSlots ns sc.names)) _)
  cases compLoc f.loc (freeSlots ns sc.names)<;>rfl
end
theorem both_cmp (hu:A.units+2 < cLine) {a b:Expr} {ca cb:Ex} (o:CmpOp) (pos:Pos) (hb:behindInMarks o b=false) (E1:ES C A fs (eval a f.env) (evalE T cf K f.loc false ca)) (E2:ES C A fs (eval b f.env) (evalE T cf K f.loc false cb)) :
    Both C T cf K A fs f (.Compare a [o] [b] pos) (.cmp (cmOf o) ca cb):=by
  have h1:=es_cmp (o:=cmOf o) (pos:=pos) hu (by rw [cmO_cmOf]; exact hb) E1 E2
  have h2:=ts_cmp (o:=cmOf o) (pos:=pos) hu (by rw [cmO_cmOf]; exact hb) E1 E2
  rw [cmO_cmOf] at h1 h2
  exact ⟨h1,h2⟩
theorem both_boolop {r:Expr→Ex} (B:∀ e,Both C T cf K A fs f e (r e)) (o:BoolOp) (es:List Expr) (pos:Pos):Both C T cf K A fs f (.BoolOp o es pos) (.boolop (o == .And) (exsMap r es)):=by
  refine ⟨?_,?_⟩
  · have:=es_boolop (C:=C) (A:=A) (fs:=fs) (isAnd:=o == .And) (pos:=pos) (all2_es (T:=T) (cf:=cf) (K:=K) (l:=f.loc) (env:=f.env) (g:=r) (es:=es) fun e _=>(B e).1)
    rw [bo_eq] at this
    rw [arm_eval_BoolOp,show evalE T cf K f.loc false (.boolop (o == .And) (exsMap r es))=boolE (o == .And) (es.map fun e=>evalE T cf K f.loc false (r e)) from funext fun os=>evalBool_false es os]
    exact this
  · have:=ts_boolop (C:=C) (A:=A) (fs:=fs) (isAnd:=o == .And) (env:=f.env) (all2_ts (T:=T) (cf:=cf) (K:=K) (l:=f.loc) (env:=f.env) (g:=r) (es:=es) fun e _=>(B e).2)
    rw [bo_eq] at this
    rw [arm_isTrue_BoolOp,show evalE T cf K f.loc true (.boolop (o == .And) (exsMap r es))=boolT (o == .And) (es.map fun e=>evalE T cf K f.loc true (r e)) from funext fun os=>evalBool_true es os]
    exact this
theorem both_dict (ks:List (Option Expr)) (vs:List Expr) (pos:Pos):Both C T cf K A fs f (.Dict ks vs pos) (dictE ks vs):=by
  cases ks with
  | nil=>cases vs with
    | nil=>exact both_of rfl (fun _=>rfl) es_dict0
    | cons _ _=>exact both_bad
  | cons k ks=>cases ks with
    | cons _ _=>exact both_bad
    | nil =>
      refine Both.opt fun k ek=>Both.opt fun x ex=>Both.opt fun v ev=>Both.opt fun i ei=>Both.iff fun hx=>?_
      cases ek
      cases one_is ev
      obtain ⟨_,_,rfl⟩:=strC_of ex
      obtain ⟨_,_,rfl⟩:=intC_of ei
      exact both_of rfl (fun _=>rfl) (es_dict1 (of_decide_eq_true hx))
theorem mainE (n:Nat):∀ (ns:Names) (e:Expr) (fs:List FrD) (f:FrD),Ctx C N T F cf K A d→f ∈ fs→Nrel ns f.env.scope.names→FrIn f fs→A.frames=some (reals fs) →
    Both C T cf K A fs f e (cE N n ns e):=by
  induction n with
  | zero=>intro ns e fs f Q hm hN hI hfr; exact both_bad
  | succ n ih =>
    intro ns e fs f Q hm hN hI hfr
    have B:=fun e=>ih ns e fs f Q hm hN hI hfr
    have E1:∀ e,ES C A fs (eval e f.env) (evalE T cf K f.loc false (cE N n ns e)):=fun e=>(B e).1
    cases e with
    | Constant c k pos=>exact both_const c k pos
    | Name x pos=>exact both_name Q hm hN x pos
    | Attribute e a pos=>exact both_attr Q hfr (E1 e) a pos
    | BoolOp o es pos=>exact both_boolop B o es pos
    | UnaryOp o e pos=>cases o with
      | Not=>exact ⟨es_not (E1 e),ts_not (B e).2⟩
      | USub=>exact both_of rfl (fun _=>rfl) (es_neg (E1 e))
      | _=>exact both_bad
    | BinOp a o b pos =>
      refine Both.opt fun p ep=>?_
      rw [← opO_opOf ep]
      exact both_of rfl (fun _=>rfl) (es_bin (E1 a) (E1 b))
    | IfExp c a b pos=>exact ⟨es_ife (B c).2 (E1 a) (E1 b),ts_ife (B c).2 (B a).2 (B b).2⟩
    | Compare a os bs pos =>
      refine Both.opt fun o eo=>Both.opt fun b eb=>Both.iff fun hb=>?_
      cases one_is eo
      cases one_is eb
      exact both_cmp (by have:=Q.hA.lt; omega) o pos (not_of hb) (E1 a) (E1 b)
    | Subscript a i pos=>exact both_sub E1 a i pos
    | List es pos=>exact Both.iff fun hs=>both_of rfl (fun _=>rfl) (es_list (not_of hs) (ls_exs fun e _=>E1 e))
    | Tuple es k pos=>exact Both.iff fun hs=>both_of rfl (fun _=>rfl) (es_tup (not_of hs) (ls_exs fun e _=>E1 e))
    | ListComp e gs sc pos =>
      exact both_comp E1 Q hm hN e gs pos fun e cf' h2 h3 h4=>by
        obtain ⟨r1,r2⟩:=reals_comp hI h3 h4
        exact ih sc.names e (cf' :: fs) cf' Q (.head _) h2 r2 (hfr.trans (congrArg some r1.symm))
    | Dict ks vs pos=>exact both_dict ks vs pos
    | Call fn as ks pos=>exact both_call E1 Q hm hN hfr fn as ks pos
    | _=>exact both_bad
end
noncomputable def dropA (h:Heap):List Addr→Heap
  | []=>h
  | a :: r=>(dropA h r).update a fun o=>{ o with data:=.freed }
theorem get_dropA {h:Heap}:∀ {l:List Addr} {b:Addr},(dropA h l).get? b=if b ∈ l then none else h.get? b
  | [],b=>by simp [dropA]
  | a :: r,b=>by
    unfold dropA
    by_cases e:a=b
    · subst e
      rw [if_pos (List.mem_cons_self)]
      cases q:((dropA h r).update a fun o=>{ o with data:=.freed }).get? a with
      | none=>rfl
      | some o =>
        exfalso
        obtain ⟨e1,e2⟩:=Heap.get?_some_iff.mp q
        simp only [Heap.update,Array.getElem?_modify] at e1
        simp only [if_true,Option.map_eq_some_iff] at e1
        obtain ⟨o',_,rfl⟩:=e1
        simp [Obj.isFreed] at e2
    · rw [Heap.get?_update_other _ _ e,get_dropA]
      by_cases hb:b ∈ r
      · rw [if_pos hb,if_pos (List.mem_cons_of_mem _ hb)]
      · rw [if_neg hb,if_neg (by simp [hb]; exact fun q=>e q.symm)]
structure BaseOk (C:Cx) (W:Wd) (os:List AO) (B:Heap):Prop where
  b:∀ b o,C.h₀.get? b=some o→B.get? b=some o
  k:∀ p ∈ W.kp,B.get? p.1=some p.2
  o:∀ (i:Nat) (o:AO) (a:Addr),os[i]?=some o→W.φ[i]?=some a→∃ ob,B.get? a=some ob∧OR C W o ob
structure XH (C:Cx) (fs:List FrD) (W:Wd) (os:List AO) (m:List Nat) (e:Addr) (L:Addr) (h:Heap):Prop where
  hr:HR C fs W os h
  fly:∃ B t tk,Heap.HeldW B (reals fs) e (.type "ValueError") (.ref t) L h∧h.TupAt t [.str (strV m) tk]∧BaseOk C W os B
section
variable {C:Cx} {fs:List FrD} {f:FrD} {W:Wd} {os:List AO} {h h':Heap} {s:Shared} {A:Around} {E:Value→Shared→Prop}
theorem XR.base {m:List Nat} {e:Addr} (x:XR C fs W os m e h):∃ B t tk,Heap.FlyingW B (reals fs) e (.type "ValueError") (.ref t) h∧h.TupAt t [.str (strV m) tk]∧BaseOk C W os B:=by
  obtain ⟨B,t,tk,a,b,c,d,g⟩:=x.fly
  exact ⟨B,t,tk,a,b,c,d,g⟩
theorem XR.of {m:List Nat} {e:Addr} (hr:HR C fs W os h) {B:Heap} {t:Addr} {tk:Tok} (a:Heap.FlyingW B (reals fs) e (.type "ValueError") (.ref t) h) (b:h.TupAt t [.str (strV m) tk]) (c:BaseOk C W os B):XR C fs W os m e h :=
  ⟨hr,B,t,tk,a,b,c.b,c.k,c.o⟩
theorem HR.slots (H:HR C fs W os h) {B:Heap} (b:BaseOk C W os B) (st:B.StaysIn h') (up:h.UpToSlots h'):HR C fs W os h' where
  base x o e:=st _ _ (b.b x o e)
  kept p m:=st _ _ (b.k p m)
  len:=H.len
  objs i o a e1 e2:=let ⟨ob,x,y⟩:=b.o i o a e1 e2; ⟨ob,st _ _ x,y⟩
  frames f m:=by
    have r:=H.frames f m
    obtain ⟨mm,e1,e2⟩:=r.ns
    exact ⟨r.kind,r.glob,r.bns,⟨mm,up.ns e1,e2⟩,r.cel⟩
  nodup:=H.nodup
  apart:=H.apart
theorem reals_real {L:Addr} {env:Env} (m:env ∈ reals fs):env.frame=some env.locals∧env.locals ∈ fs.map (·.env.locals):=by
  unfold reals at m
  obtain ⟨f,mf,rfl⟩:=List.mem_map.mp m
  obtain ⟨m1,m2⟩:=List.mem_filter.mp mf
  unfold FrD.real at m2
  exact ⟨eq_of_beq m2,List.mem_map_of_mem (f:=fun f:FrD=>f.env.locals) m1⟩
theorem baseOf (H:HR C fs W os h):BaseOk C W os (dropA h (fs.map (·.env.locals)))∧(dropA h (fs.map (·.env.locals))).StaysIn h∧h.FunFrames (dropA h (fs.map (·.env.locals))) (reals fs):=by
  have off:∀ b,b ∉ fs.map (·.env.locals)→(dropA h (fs.map (·.env.locals))).get? b=h.get? b:=fun b hb=>by rw [get_dropA,if_neg hb]
  refine ⟨⟨fun b o e=>?_,fun p m=>?_,fun i o a e1 e2=>?_⟩,fun b o e=>?_,?_⟩
  · rw [off b fun m=>by rw [(H.apart b (List.mem_append_left _ m)).1] at e; cases e]; exact H.base b o e
  · rw [off p.1 fun q=>(H.apart p.1 (List.mem_append_left _ q)).2 p m rfl]; exact H.kept p m
  · obtain ⟨ob,x,y⟩:=H.objs i o a e1 e2
    refine ⟨ob,?_,y⟩
    rw [off a fun q=>(List.nodup_append.mp H.nodup).2.2 a q a (List.mem_of_getElem? e2) rfl]; exact x
  · rw [get_dropA] at e
    split at e
    · cases e
    · exact e
  · have key:∀ l:List Env,(∀ x ∈ l,x ∈ reals fs)→h.FunFrames (dropA h (fs.map (·.env.locals))) l:=by
      intro l
      induction l with
      | nil=>intro _; trivial
      | cons x r ih =>
        intro hx
        have hm:=hx x (.head _)
        obtain ⟨q1,q2⟩:=reals_real (L:=0) hm
        unfold reals at hm
        obtain ⟨f,hmf,rfl⟩:=List.mem_map.mp hm
        have F:=H.frames f (List.mem_filter.mp hmf).1
        obtain ⟨mm,⟨o,es,ep,ho,hd,_⟩,_⟩:=F.ns
        refine ⟨?_,⟨_,o,q1,?_,ho,?_⟩,ih fun y m=>hx y (.tail _ m)⟩
        · rw [F.kind]; exact fun q=>nomatch q
        · rw [get_dropA,if_pos q2]
        · intro vs q; rw [hd] at q; cases q
    exact key _ fun _ m=>m
theorem notes_made {base h0:Heap} {env:Env} {outer:List Env} {L e:Addr} {cls:Value} {args:List Value} {Q:Unit→Shared→Prop} (hfr:A.frames=some (env :: outer)) (hf:env.frame=some L)
    (hkb:base.StaysIn h0) (hl:h0.FunFrames base (env :: outer)) (hx:Heap.MadeExcOf h0 s.heap e cls args)
    (hQ:∀ h' t,Heap.HeldW base (env :: outer) e cls (.ref t) L h'→h'.TupAt t args→s.heap.UpToSlots h'→Q () { s with heap:=h' }):wpAny (model C.prog C.w) A (noteFrame (.ref e) env) Q E s:=by
  obtain ⟨t,he,htn,ht⟩:=hx.there
  have fresh:∀ b,h0.get? b=none→base.get? b=none:=fun b hb=>by
    cases hq:base.get? b with
    | none=>rfl
    | some o'=>have:=hkb b o' hq; rw [hb] at this; cases this
  unfold noteFrame
  simp only [hf]
  refine wpAny_bind (wpAny_field (x:=.none) he rfl rfl ?_)
  rw [if_neg (show ¬ ((Value.none != Value.none)=true) from by simp)]
  refine wpAny_entryW hfr (hl.of_keeps fun b o hb _=>⟨o,hx.keeps b o hb,rfl⟩) hf he (fun b o hb=>hx.keeps b o (hkb b o hb)) (fresh e hx.new) rfl (by simp) rfl fun h' hN=>?_
  obtain ⟨k1,k2,k3,k4⟩:=hN
  exact hQ h' t ⟨k1,fresh e hx.new,k2,k3⟩ (Heap.TupAt.of_slots ⟨_,_,ht,rfl,rfl⟩ k4) k4
theorem flight_held {base:Heap} {l:List Env} {e L:Addr} {cls a0:Value} {Q:Unit→Shared→Prop} (hh:Heap.HeldW base l e cls a0 L s.heap)
    (hQ:∀ h',Heap.HeldW base l e cls a0 L h'→s.heap.UpToSlots h'→Q () { s with heap:=h' }):wpAny (model C.prog C.w) A (setFlight (.ref e) (some L)) Q E s:=by
  obtain ⟨f1,f2,f3,oe,vs,T,oT,ts,he,hc,hd,h1,hnT,hTe,hT,hdT,h3⟩:=hh
  have sz:3 < ts.size:=(Array.getElem?_eq_some_iff.mp h3).1
  unfold setFlight
  refine wpAny_bind (wpAny_field he hd h1 ?_)
  rw [if_pos (show (Value.ref T != Value.none)=true from by simp)]
  refine wpAny_setField hT hdT sz (hQ _ ?_ ?_)
  · have other:∀ b,b ≠ T→(s.heap.update T (Obj.mapFields (·.setIfInBounds 3 ((some L).elim Value.none fun f=>rawInt f)))).get? b=s.heap.get? b:=fun b hb=>Heap.get?_update_other _ _ (Ne.symm hb)
    have noRec:∀ b o,s.heap.get? b=some o→(∀ vs,o.data ≠ .fields vs)→b ≠ T:=fun b o hb hnf q=>by
      rw [q,hT] at hb; injection hb with hb; subst hb; exact hnf ts hdT
    refine ⟨fun b o hb=>(other b fun q=>by rw [q,hnT] at hb; cases hb).trans (f1 b o hb),f2,f3.of_keeps fun b o hb hnf=>⟨o,(other b (noRec b o hb hnf)).trans hb,rfl⟩,?_⟩
    exact ⟨oe,vs,T,_,_,(other e (Ne.symm hTe)).trans he,hc,hd,h1,hnT,hTe,Heap.get?_update_self _ hT (Obj.isFreed_of_fields (Obj.data_mapFields hdT _)),Obj.data_mapFields hdT _,by simp [sz]⟩
  · intro b o hb hnf
    have:b ≠ T:=fun q=>by
      rw [q,hT] at hb; injection hb with hb; subst hb; exact hnf ts hdT
    exact ⟨o.slots,by rw [Heap.get?_update_other _ _ (Ne.symm this)]; exact hb⟩
end
section
variable (C:Cx) (env:Env) (fs:List FrD) (W:Wd) (s:Shared)
inductive GoN (l:List LV) (os:List AO) (s':Shared):Prop
  | mk (W':Wd) (le:W.le W') (H:HR C (⟨env,l⟩ :: fs) W' os s'.heap) (sm:Sm s s'):GoN l os s'
inductive GoR (v:V) (os:List AO) (x:Value) (s':Shared):Prop
  | mk (W':Wd) (l:List LV) (le:W.le W') (H:HR C (⟨env,l⟩ :: fs) W' os s'.heap) (hv:VR W' v x) (sm:Sm s s'):GoR v os x s'
noncomputable def SN (r:RS) (fl:Flow) (s':Shared):Prop:=match r,fl with
  | .next l os,.next=>GoN C env fs W s l os s'
  | .brk l os,.brk=>GoN C env fs W s l os s'
  | .cont l os,.cont=>GoN C env fs W s l os s'
  | .ret v os,.ret x=>GoR C env fs W s v os x s'
  | _,_=>False
noncomputable def ExS (g:Nat) (W':Wd) (os:List AO) (l:List LV) (m:List Nat) (a:Addr) (h:Heap):Prop:=match g with
  | 0=>∃ h₁ tk,HR C (⟨env,l⟩ :: fs) W' os h₁∧Heap.MadeExcOf h₁ h a (.type "ValueError") [.str (strV m) tk]
  | 1=>XR C (⟨env,l⟩ :: fs) W' os m a h
  | _=>XH C (⟨env,l⟩ :: fs) W' os m a env.locals h
inductive GoX (g:Nat) (m:List Nat) (l:List LV) (os:List AO) (e:Value) (s':Shared):Prop
  | mk (W':Wd) (a:Addr) (ee:e=.ref a) (le:W.le W') (X:ExS C env fs g W' os l m a s'.heap) (sm:Sm s s'):GoX g m l os e s'
noncomputable def SX (r:RS) (e:Value) (s':Shared):Prop:=match r with
  | .exc g m l os=>GoX C env fs W s g m l os e s'
  | _=>False
noncomputable def SatS (A:Around) (t:Sem Flow) (r:RS):Prop:=r ≠ .fail→wpAny (model C.prog C.w) A t (SN C env fs W s r) (SX C env fs W s r) s
end
noncomputable def SS (C:Cx) (A:Around) (env:Env) (fs:List FrD) (t:Sem Flow) (c:List LV→List AO→RS):Prop:=∀ l W os s,HR C (⟨env,l⟩ :: fs) W os s.heap→SatS C env fs W s A t (c l os)
section
variable {C:Cx} {env:Env} {fs:List FrD} {W W':Wd} {s s':Shared} {A:Around} {t:Sem Flow} {l:List LV} {os:List AO}
theorem SN.from {s₁ s₂:Shared} {r:RS} {fl:Flow} (le:W.le W') (sm:Sm s s₁) (h:SN C env fs W' s₁ r fl s₂):SN C env fs W s r fl s₂:=by
  cases r<;>cases fl<;>first | exact h.elim | skip
  · obtain ⟨W2,a,b,c⟩:=h; exact ⟨W2,le.trans a,b,sm.trans c⟩
  · obtain ⟨W2,l,a,b,d,c⟩:=h; exact ⟨W2,l,le.trans a,b,d,sm.trans c⟩
  · obtain ⟨W2,a,b,c⟩:=h; exact ⟨W2,le.trans a,b,sm.trans c⟩
  · obtain ⟨W2,a,b,c⟩:=h; exact ⟨W2,le.trans a,b,sm.trans c⟩
theorem SX.from {s₁ s₂:Shared} {r:RS} {e:Value} (le:W.le W') (sm:Sm s s₁) (h:SX C env fs W' s₁ r e s₂):SX C env fs W s r e s₂:=by
  cases r<;>first | exact h.elim | skip
  obtain ⟨W2,a,e,b,d,c⟩:=h; exact ⟨W2,a,e,le.trans b,d,sm.trans c⟩
theorem SatS.from {s₁:Shared} {r:RS} (le:W.le W') (sm:Sm s s₁) (h:SatS C env fs W' s₁ A t r) (hf:r ≠ .fail):wpAny (model C.prog C.w) A t (SN C env fs W s r) (SX C env fs W s r) s₁ :=
  wpAny_mono (h hf) (fun _ _ x=>x.from le sm) fun _ _ x=>x.from le sm
theorem SatS.fail:SatS C env fs W s A t .fail:=fun h=>absurd rfl h
theorem SatS.standAt {p:Pos} {k:Unit→Sem Flow} {r:RS} (h:SatS C env fs W s A (k ()) r):SatS C env fs W s A (PySem.standAt p >>= k) r:=fun hf=>wpAny_bind (wpAny_standAt (h hf))
theorem SatS.st {β:Type} {rel:Wd→V→β→Prop} {m:Sem β} {k:β→Sem Flow} {r:R V} {g:V→List AO→RS} (h1:Sat C A m rel (⟨env,l⟩ :: fs) W r s)
    (h2:∀ a os W' x s',W.le W'→HR C (⟨env,l⟩ :: fs) W' os s'.heap→rel W' a x→SatS C env fs W' s' A (k x) (g a os)):SatS C env fs W s A (m >>= k) (r.st l g):=by
  intro hf
  have hr:r ≠ .fail:=by intro q; rw [q] at hf; exact hf rfl
  refine wpAny_bind (wpAny_mono (h1 hr) ?_ ?_)
  · rintro x s1 ⟨a,os1,W1,rfl,le,H,q,sm⟩
    exact (h2 a os1 W1 x s1 le H q).from le sm hf
  · rintro x s1 ⟨m,os1,W1,b,rfl,rfl,le,X,sm⟩
    exact ⟨W1,b,rfl,le,X,sm⟩
set_option tactic.hygienic true in
theorem sss_nil:SS C A env fs (PySem.execs [] env) (fun l os=>.next l os):=fun l W os s H hf=>wpAny_execs_nil ⟨W,.refl _,H,.refl _⟩
set_option tactic.hygienic true in
theorem sss_cons {st:Stmt} {sts:List Stmt} {c cs:List LV→List AO→RS} (h:SS C A env fs (exec st env) c) (h2:SS C A env fs (PySem.execs sts env) cs):SS C A env fs (PySem.execs (st :: sts) env) (fun l os=>(c l os).seq cs):=by
  intro l W os s H hf
  dsimp only at hf ⊢
  have hr:c l os ≠ .fail:=by intro q; rw [q] at hf; exact hf rfl
  refine wpAny_execs_cons (wpAny_mono (h l W os s H hr) ?_ ?_)
  · intro fl s1 hn
    cases e:c l os with
    | next l1 os1 =>
      rw [e] at hn hf
      cases fl<;>first | exact hn.elim | skip
      obtain ⟨W1,le,H1,sm⟩:=hn
      exact (h2 l1 W1 os1 s1 H1).from le sm hf
    | fail=>exact absurd e hr
    | _ =>
      rw [e] at hn
      cases fl<;>first | exact hn.elim | exact hn
  · intro x s1 hx
    cases e:c l os with
    | exc g m l1 os1=>rw [e] at hx; exact hx
    | _=>rw [e] at hx; exact hx.elim
set_option tactic.hygienic true in
theorem ss_pass {pos:Pos}:SS C A env fs (exec (.Pass pos) env) (fun l os=>.next l os):=fun l W os s H=>SatS.standAt fun _=>wpAny_pure ⟨W,.refl _,H,.refl _⟩
theorem ss_brk {pos:Pos}:SS C A env fs (exec (.Break pos) env) (fun l os=>.brk l os):=fun l W os s H=>SatS.standAt fun _=>wpAny_pure ⟨W,.refl _,H,.refl _⟩
theorem ss_cont {pos:Pos}:SS C A env fs (exec (.Continue pos) env) (fun l os=>.cont l os):=fun l W os s H=>SatS.standAt fun _=>wpAny_pure ⟨W,.refl _,H,.refl _⟩
theorem ss_ret {e:Expr} {pos:Pos} {c:List LV→List AO→R V} (h:∀ l,ES C A (⟨env,l⟩ :: fs) (eval e env) (c l)):SS C A env fs (exec (.Return (some e) pos) env) (fun l os=>(c l os).st l fun v os=>.ret v os):=by
  intro l W os s H
  rw [arm_exec_Return]
  refine SatS.standAt ?_
  show SatS C env fs W s A (eval e env >>= fun v=>Pure.pure (Flow.ret v)) _
  exact SatS.st (h l W os s H) fun a os1 W1 x s1 le H1 q _=>wpAny_pure ⟨W1,l,.refl _,H1,q,.refl _⟩
theorem ss_if {e:Expr} {as bs:List Stmt} {pos:Pos} {c:List LV→List AO→R V} {a b:List LV→List AO→RS} (h:∀ l,TS C A (⟨env,l⟩ :: fs) (isTrue e env (eval e env)) (c l)) (ha:SS C A env fs (PySem.execs as env) a) (hb:SS C A env fs (PySem.execs bs env) b) :
    SS C A env fs (exec (.If e as bs pos) env) (fun l os=>(c l os).st l fun t os=>match t with | .bool true=>a l os | .bool false=>b l os | _=>.fail):=by
  intro l W os s H
  rw [arm_exec_If]
  refine SatS.standAt (SatS.st (h l W os s H) fun v os1 W1 x s1 le H1 q=>?_)
  cases q
  cases x
  · exact hb l W1 os1 s1 H1
  · exact ha l W1 os1 s1 H1
theorem interactive_fun (F:env.scope.kind=.function):interactive env=false:=by unfold interactive; rw [F]; rfl
set_option tactic.hygienic true in
theorem ss_expr {e:Expr} {pos:Pos} {c:List LV→List AO→R V} (F:env.scope.kind=.function) (hs:swapsWith e none pos.line env=pure false) (h:∀ l,ES C A (⟨env,l⟩ :: fs) (eval e env) (c l)) :
    SS C A env fs (exec (.Expr e pos) env) (fun l os=>(c l os).st l fun v os=>match v.flat with | true=>.next l os | false=>.fail):=by
  intro l W os s H
  rw [arm_exec_Expr,interactive_fun F,hs]
  refine SatS.standAt ?_
  show SatS C env fs W s A (eval e env >>= fun v=>dropValue e pos v) _
  refine SatS.st (h l W os s H) fun v os1 W1 x s1 le H1 q=>?_
  cases hv:v.flat with
  | true=>exact fun _=>wpAny_dropValue ⟨W1,.refl _,H1,.refl _⟩
  | false=>exact SatS.fail
end
end Mine
end
section
open PySem PySem.W PySem.Calls PyProof.Rows
set_option backward.match.sparseCases false
namespace Mine
section
variable {C:Cx} {T:Tab} {F:Fns} {env:Env} {fs:List FrD} {W W':Wd} {s s':Shared} {A:Around} {t:Sem Flow} {l:List LV} {os:List AO} {K:Nat} {cf:Nat→List V→List AO→R V}
theorem exec_Assign_one {t e:Expr} {pos:Pos} (hs:swapsWith e (some t) pos.line env=pure false) (hsw:swappedStores [t] e env=pure none) (hst:assignEach [t] env=[(false,assign t env)]) :
    exec (.Assign [t] e pos) env=(do standAt pos; let v ← eval e env; assign t env v; pure .next):=by
  rw [arm_exec_Assign]
  have h1:swapsWithSole [t] e pos.line env=pure false:=hs
  rw [h1,hsw,hst]
  rfl
theorem SatS.bindNext {m:Sem Unit} {r:RS} (h:r ≠ .fail→wpAny (model C.prog C.w) A m (fun _ s'=>∃ l os,r=.next l os∧HR C (⟨env,l⟩ :: fs) W os s'.heap∧Sm s s') (SX C env fs W s r) s):SatS C env fs W s A (m >>= fun _=>Pure.pure Flow.next) r:=by
  intro hf
  refine wpAny_bind (wpAny_mono (h hf) ?_ fun _ _ x=>x)
  rintro _ s1 ⟨l,os,rfl,H,sm⟩
  exact wpAny_pure ⟨W,.refl _,H,sm⟩
theorem sat_bindName (H:HR C (⟨env,l⟩ :: fs) W os s.heap) (nd:(env.scope.names.map (·.1)).Nodup) {x:Str} {i:Nat} {k:NameKind} (hx:slotOf x env.scope.names 0=some (i,k)) (hk:isOwn k=true) {v:V} {y:Value} (hv:VR W v y)
    (hr:setLoc l os i v ≠ .fail) {E:Value→Shared→Prop}:wpAny (model C.prog C.w) A (bindName env x y) (fun _ s'=>∃ l' os',setLoc l os i v=.next l' os'∧HR C (⟨env,l'⟩ :: fs) W os' s'.heap∧Sm s s') E s :=
  wpAny_bindName (sat_store (f:=⟨env,l⟩) H nd hx hk hv hr)
theorem ss_asg {e:Expr} {x:Str} {p pos:Pos} {i:Nat} {k:NameKind} {c:List LV→List AO→R V} (nd:(env.scope.names.map (·.1)).Nodup) (hx:slotOf x env.scope.names 0=some (i,k)) (hk:isOwn k=true)
    (hs:swapsWith e (some (.Name x p)) pos.line env=pure false) (h:∀ l,ES C A (⟨env,l⟩ :: fs) (eval e env) (c l)):SS C A env fs (exec (.Assign [.Name x p] e pos) env) (fun l os=>(c l os).st l fun v os=>setLoc l os i v):=by
  intro l W os s H
  rw [exec_Assign_one hs rfl rfl]
  refine SatS.standAt (SatS.st (h l W os s H) fun v os1 W1 y s1 le H1 q=>?_)
  refine SatS.bindNext fun hf=>?_
  rw [arm_assign_Name]
  exact wpAny_bind (wpAny_standAt (sat_bindName H1 nd hx hk q hf))
theorem ss_asgA (X:CxOk C) (hT:TabOk C T F) {e o:Expr} {a:Str} {p pos:Pos} {i:Nat} {c co:List LV→List AO→R V} (hn:C.nm[i]?=some a) (hs:swapsWith e (some (.Attribute o a p)) pos.line env=pure false)
    (h:∀ l,ES C A (⟨env,l⟩ :: fs) (eval e env) (c l)) (ho:∀ l,ES C A (⟨env,l⟩ :: fs) (eval o env) (co l)) :
    SS C A env fs (exec (.Assign [.Attribute o a p] e pos) env) (fun l os=>(c l os).st l fun v os=>(co l os).st l fun o os=>storeAttr T o i v l os):=by
  intro l W os s H
  rw [exec_Assign_one hs rfl rfl]
  refine SatS.standAt (SatS.st (h l W os s H) fun v os1 W1 y s1 le H1 q=>?_)
  rw [arm_assign_Attribute]
  simp only [bind_assoc]
  refine SatS.st (Sat.holding (ho l W1 os1 s1 H1)) fun ov os2 W2 z s2 le2 H2 q2=>SatS.standAt ?_
  intro hf
  refine wpAny_bind (wpAny_holding (wpAny_mono (sat_setAttr X hT H2 hn q2 (q.mono le2) hf) ?_ fun _ _ x=>x))
  rintro _ s3 ⟨os3,e3,H3,sm3⟩
  refine wpAny_bind (wpAny_release (wpAny_pure ?_))
  rw [e3]
  exact ⟨W2,.refl _,H3,sm3⟩
theorem ss_asgI {e o k:Expr} {p pos:Pos} {c co ck:List LV→List AO→R V} (hs:swapsWith e (some (.Subscript o k p)) pos.line env=pure false)
    (h:∀ l,ES C A (⟨env,l⟩ :: fs) (eval e env) (c l)) (ho:∀ l,ES C A (⟨env,l⟩ :: fs) (eval o env) (co l)) (hk:∀ l,ES C A (⟨env,l⟩ :: fs) (eval k env) (ck l)) :
    SS C A env fs (exec (.Assign [.Subscript o k p] e pos) env) (fun l os=>(c l os).st l fun v os=>(co l os).st l fun o os=>(ck l os).st l fun k os=>storeItem o k v l os):=by
  intro l W os s H
  rw [exec_Assign_one hs rfl rfl]
  refine SatS.standAt (SatS.st (h l W os s H) fun v os1 W1 y s1 le H1 q=>?_)
  rw [arm_assign_Subscript]
  simp only [bind_assoc]
  refine SatS.st (Sat.holding (ho l W1 os1 s1 H1)) fun ov os2 W2 z s2 le2 H2 q2=>?_
  refine SatS.st (Sat.holding (hk l W2 os2 s2 H2)) fun kv os3 W3 u s3 le3 H3 q3=>SatS.standAt ?_
  intro hf
  refine wpAny_bind (wpAny_holding (wpAny_mono (sat_setItem H3 (q2.mono le3) q3 (q.mono (le2.trans le3)) hf) ?_ fun _ _ x=>x))
  rintro _ s4 ⟨os4,e4,H4,sm4⟩
  refine wpAny_bind (wpAny_release (wpAny_pure ?_))
  rw [e4]
  exact ⟨W3,.refl _,H4,sm4⟩
theorem nrel_own {ns:Names} (hN:Nrel ns env.scope.names) {x:Str} {i:Nat} {k:NameKind} (e:slotOf x ns 0=some (i,k)) (hk:isOwn k=true):slotOf x env.scope.names 0=some (i,k):=by
  obtain ⟨k',e',hkk⟩:=hN.slot x i k e
  rcases hkk with rfl | ⟨rfl,_⟩
  · exact e'
  · cases hk
theorem iteO {α:Type} {p:Prop} [Decidable p] {o:Option α} {b:α} (h:(if p then o else none)=some b):p∧o=some b:=by
  by_cases q:p
  · rw [if_pos q] at h; exact ⟨q,h⟩
  · rw [if_neg q] at h; exact noSome h
theorem slotsOf_cons {ns:Names} {a:Expr} {es:List Expr} {is:List Nat} (h:slotsOf ns (a :: es)=some is):∃ x p i k is',a=.Name x p∧slotOf x ns 0=some (i,k)∧isOwn k=true∧slotsOf ns es=some is'∧is=i :: is':=by
  obtain ⟨x,ex,h⟩:=bindSome h
  obtain ⟨q,eq,h⟩:=bindSome h
  obtain ⟨hk,h⟩:=iteO h
  obtain ⟨is',e1,rfl⟩:=Option.map_eq_some_iff.mp h
  obtain ⟨p,rfl⟩:=name_of ex
  exact ⟨x,p,q.1,q.2,is',rfl,eq,hk,e1,rfl⟩
theorem sat_unpack {ns:Names} (hN:Nrel ns env.scope.names) {E:Value→Shared→Prop}:∀ {es:List Expr} {is:List Nat} {vs:List V} {xs:List Value} {l:List LV} {os:List AO} {s:Shared},slotsOf ns es=some is→VRs W vs xs→HR C (⟨env,l⟩ :: fs) W os s.heap→storeAll is vs l os ≠ .fail →
    wpAny (model C.prog C.w) A (assignInOrder ((assignEach es env).map (·.2)) xs) (fun _ s'=>∃ l2 os2,storeAll is vs l os=.next l2 os2∧HR C (⟨env,l2⟩ :: fs) W os2 s'.heap∧Sm s s') E s:=by
  intro es
  induction es with
  | nil =>
    intro is vs xs l os s e hv H hf
    cases e
    cases hv with
    | nil=>exact wpAny_pure ⟨l,os,rfl,H,.refl _⟩
    | cons _ _=>exact absurd rfl hf
  | cons a es ih =>
    intro is vs xs l os s e hv H hf
    obtain ⟨x,p,i,k,is',rfl,e1,hk,e2,rfl⟩:=slotsOf_cons e
    cases hv with
    | nil=>exact absurd rfl hf
    | @cons v y vs ys q qs =>
      have hf1:setLoc l os i v ≠ .fail:=by intro h; apply hf; show (setLoc l os i v).seq _=_; rw [h]
      show wpAny _ _ (assignInOrder (assign (.Name x p) env :: (assignEach es env).map (·.2)) (y :: ys)) _ _ _
      unfold assignInOrder
      refine wpAny_bind (wpAny_holding ?_)
      rw [arm_assign_Name]
      refine wpAny_bind (wpAny_standAt (wpAny_mono (sat_bindName H hN.nd (nrel_own hN e1 hk) hk q hf1) ?_ fun _ _ x=>x))
      rintro _ s1 ⟨l1,os1,r1,H1,sm1⟩
      have r2:storeAll (i :: is') (v :: vs) l os=storeAll is' vs l1 os1:=by show (setLoc l os i v).seq _=_; rw [r1]
      rw [r2] at hf ⊢
      refine wpAny_mono (ih e2 qs H1 hf) ?_ fun _ _ x=>x
      rintro _ s2 ⟨l2,os2,r3,H2,sm2⟩
      exact ⟨l2,os2,r3,H2,sm1.trans sm2⟩
theorem slotsOf_each {ns:Names}:∀ {es:List Expr} {is:List Nat},slotsOf ns es=some is→(assignEach es env).length=is.length∧(assignEach es env).findIdx? (·.1)=none
  | [],is,e=>by cases e; exact ⟨rfl,rfl⟩
  | a :: es,is,e=>by
    obtain ⟨x,p,i,k,is',rfl,e1,hk,e2,rfl⟩:=slotsOf_cons e
    obtain ⟨h1,h2⟩:=slotsOf_each e2
    refine ⟨congrArg (·+1) h1,?_⟩
    show List.findIdx? _ ((false,_) :: assignEach es env)=none
    rw [List.findIdx?_cons,h2]
    rfl
theorem ss_unp (hh:A.handled=none) {ns:Names} (hN:Nrel ns env.scope.names) {es:List Expr} {is:List Nat} {e:Expr} {k:Nat} {p pos:Pos} {c:List LV→List AO→R V} (hes:slotsOf ns es=some is)
    (hs:swapsWith e (some (.Tuple es k p)) pos.line env=pure false) (hsw:swappedStores [.Tuple es k p] e env=pure none) (h:∀ l,ES C A (⟨env,l⟩ :: fs) (eval e env) (c l)) :
    SS C A env fs (exec (.Assign [.Tuple es k p] e pos) env) (fun l os=>(c l os).st l fun v os=>RS.opt v.tup? fun vs=>if (vs.length == is.length)=true then storeAll is vs l os else .fail):=by
  intro l W os s H
  rw [exec_Assign_one hs hsw rfl]
  refine SatS.standAt (SatS.st (h l W os s H) fun v os1 W1 y s1 le H1 q=>?_)
  refine SatS.bindNext fun hf=>?_
  cases q with
  | tup vs a xs n m r hl =>
    have hlen:=ite_ne hf
    have e0:RS.opt (V.tup vs).tup? (fun vs=>if (vs.length == is.length)=true then storeAll is vs l os1 else .fail)=storeAll is vs l os1:=if_pos hlen
    rw [e0] at hf ⊢
    obtain ⟨h1,h2⟩:=slotsOf_each (env:=env) hes
    refine wpAny_assign_Tuple hh (isTuple_of (H1.kept _ m)) (by rw [h1,← eq_of_beq hlen,List.size_toArray,r.length]) h2 fun h' hx=>?_
    have H2:HR C (⟨env,l⟩ :: fs) W1 os1 ({ s1 with heap:=h' }:Shared).heap:=H1.keeps fun b o e=>hx b o (Nat.ne_of_lt (Heap.lt_size e)) e
    exact wpAny_mono (sat_unpack hN hes r H2 hf) (fun _ s2 ⟨l2,os2,r3,H2,sm2⟩=>⟨l2,os2,r3,H2,sm2⟩) fun _ _ x=>x
  | _=>exact absurd rfl hf
theorem notObj {v:V} (h:v.isObj=false) (i:Nat):v ≠ .obj i:=by
  intro e
  rw [e] at h
  cases h
theorem ss_aug {o:Op} {e:Expr} {x:Str} {p pos:Pos} {i:Nat} {k:NameKind} {c:List LV→List AO→R V} (nd:(env.scope.names.map (·.1)).Nodup) (hx:slotOf x env.scope.names 0=some (i,k)) (hk:isOwn k=true) (hok:okName x=true)
    (h:∀ l,ES C A (⟨env,l⟩ :: fs) (eval e env) (c l)):SS C A env fs (exec (.AugAssign (.Name x p) (opO o) e pos) env) (fun l os=>(getLoc l os i).st l fun a os=>(c l os).st l fun b os=>match a.isObj with
      | true=>.fail
      | false=>(binOp os o a b).st l fun v os=>setLoc l os i v):=by
  intro l W os s H
  rw [arm_exec_AugAssign]
  refine SatS.standAt (SatS.st (sat_load (f:=⟨env,l⟩) List.mem_cons_self hx hok H) fun a os1 W1 y s1 le1 H1 q1=>?_)
  refine SatS.st (Sat.holding (h l W1 os1 s1 H1)) fun b os2 W2 z s2 le2 H2 q2=>SatS.standAt ?_
  cases ho:a.isObj with
  | true=>exact SatS.fail
  | false =>
    refine SatS.st (Sat.operate (sat_bin (q1.mono le2) q2 H2 true fun _=>notObj ho)) fun v os3 W3 u s3 le3 H3 q3=>SatS.standAt ?_
    exact SatS.bindNext fun hf=>sat_bindName H3 nd hx hk q3 hf
theorem st_bind {r:R V} {f:V→List AO→R V} {l:List LV} {g:V→List AO→RS}:(r.bind f).st l g=r.st l fun v os=>(f v os).st l g:=by cases r<;>rfl
theorem Sat.toks {α β:Type} {rel:Wd→α→β→Prop} {t:Sem β} {r:R α} {fs:List FrD} {s:Shared} {k:Nat} (h:Sat C A t rel fs W r { s with toks:=k }) (hf:r ≠ .fail):wpAny (model C.prog C.w) A t (PR C rel fs W s r) (PX C fs W s r) { s with toks:=k } :=
  wpAny_mono (h hf) (fun _ _ ⟨a,os,W',e,le,H,q,sm⟩=>⟨a,os,W',e,le,H,q,sm⟩) fun _ _ ⟨m,os,W',b,e,e',le,X,sm⟩=>⟨m,os,W',b,e,e',le,X,sm⟩
theorem ss_augA (X:CxOk C) (hT:TabOk C T F) {o:Op} {e x:Expr} {a:Str} {p pos:Pos} {i:Nat} {c cx:List LV→List AO→R V} (hn:C.nm[i]?=some a)
    (h:∀ l,ES C A (⟨env,l⟩ :: fs) (eval e env) (c l)) (hx:∀ l,ES C A (⟨env,l⟩ :: fs) (eval x env) (cx l)) :
    SS C A env fs (exec (.AugAssign (.Attribute x a p) (opO o) e pos) env) (fun l os=>(cx l os).st l fun x os=>RS.opt (loadAttr T x i os) fun v=>match v.isObj with
      | true=>.fail
      | false=>(c l os).st l fun b os=>(binOp os o v b).st l fun v os=>storeAttr T x i v l os):=by
  intro l W os s H
  rw [arm_exec_AugAssign_2]
  refine SatS.standAt (SatS.st (hx l W os s H) fun xv os1 W1 y s1 le1 H1 q1=>?_)
  intro hf
  obtain ⟨v,el,hf'⟩:=RS.opt_ne hf
  rw [RS.opt_eq el] at hf ⊢
  cases ho:v.isObj with
  | true=>rw [ho] at hf; exact absurd rfl hf
  | false =>
    rw [ho] at hf
    revert hf
    show SatS C env fs W1 s1 A _ _
    have inner:Sat C A (holding [y] (do standAt p.atName; let old ← getAttr y a true; let v ← holding [old] (eval e env); standAt pos; operate [old,v] (inplaceOp (opO o) old v))) VR (⟨env,l⟩ :: fs) W1 ((c l os1).bind fun b os=>binOp os o v b) s1:=by
      refine Sat.holding (Sat.standAt fun hf=>?_)
      obtain ⟨da,ed,ev⟩:=bindSome el
      obtain ⟨cc,J,ep,em,eo⟩:=slotAt_spec H1 q1 ed
      cases J with
      | mk j ad Ca dx o' ei ex q1 q2 gx gd =>
        refine wpAny_bind (sat_field X hT H1 ex ei eo hn ep em ev fun old hold=>?_)
        have H1':HR C (⟨env,l⟩ :: fs) W1 os1 ({ s1 with toks:=s1.toks+1 }:Shared).heap:=H1
        exact Sat.toks (Sat.bind (Sat.holding (h l W1 os1 _ H1')) fun b os2 W2 z s2 le2 H2 q2=>Sat.standAt (Sat.operate (sat_bin (hold.mono le2) q2 H2 true fun _=>notObj ho))) hf
    rw [← st_bind (l:=l) (g:=fun v os=>storeAttr T xv i v l os)]
    refine SatS.st inner fun nv os2 W2 z s2 le2 H2 q2=>SatS.standAt ?_
    intro hf
    refine wpAny_bind (wpAny_holding (wpAny_mono (sat_setAttr X hT H2 hn (q1.mono le2) q2 hf) ?_ fun _ _ x=>x))
    rintro _ s3 ⟨os3,e3,H3,sm3⟩
    refine wpAny_bind (wpAny_release (wpAny_pure ?_))
    rw [e3]
    exact ⟨W2,.refl _,H3,sm3⟩
end
section
variable {C:Cx} {T:Tab} {F:Fns} {env:Env} {fs:List FrD} {W W':Wd} {s s':Shared} {A:Around} {t:Sem Flow} {l:List LV} {os:List AO} {K:Nat} {cf:Nat→List V→List AO→R V}
theorem reals_top (hf:env.frame=some env.locals):reals (⟨env,l⟩ :: fs)=env :: reals fs:=by
  unfold reals
  have:FrD.real ⟨env,l⟩=true:=by unfold FrD.real; rw [hf]; exact beq_self_eq_true _
  rw [List.filter_cons,this]
  rfl
theorem loopEnd {h' h₂:Heap} {l₂:List LV} {W₂:Wd} {os₂:List AO} {n:Nat} (F0:∀ g ∈ fs,FR W' h' g) (hn:W'.φ.length=n) (H:HR C (⟨env,l₂⟩ :: fs) W₂ os₂ h₂) (le:W'.le W₂) :
    ∃ W₃,W'.le W₃∧HR C (⟨env,(trim n l₂ os₂).1⟩ :: fs) W₃ (trim n l₂ os₂).2 h₂∧(W₃=W₂ ∨ W₃=W₂.cut n):=by
  unfold trim
  split
  · exact ⟨W₂,le,H,.inl rfl⟩
  · split
    · rename_i hc
      simp only [Bool.and_eq_true] at hc
      have hlen:n ≤ os₂.length:=by
        rw [← H.len]
        have:W'.φ.length ≤ W₂.φ.length:=le.φ.length_le
        omega
      refine ⟨W₂.cut n,le_cut le hn,?_,.inr rfl⟩
      have Hw:=H.weak (n:=n)
      have lo:aoLows n ((os₂.map (AO.trim n)).take n)=true:=by rw [← List.map_take]; exact hc.1
      have:=Hw.cut (fs':=⟨env,l₂.map (LV.trim n)⟩ :: fs) (n:=n) (by simpa using hlen) lo rfl fun g m=>by
        rcases List.mem_cons.mp m with rfl | m
        · exact FR.cutTrim (f:=⟨env,l₂⟩) (Hw.frames _ List.mem_cons_self) hc.2
        · exact FR.cutSame (F0 g m) hn (Hw.frames g (List.mem_cons_of_mem _ m))
      rw [← List.map_take] at this
      exact this
    · exact ⟨W₂,le,H,.inl rfl⟩
theorem through (hf:env.frame=some env.locals) (hfr:A.frames=some (env :: reals fs)) {m:List Nat} {e:Value} {s₁:Shared} {r:RS} (hr:r=.exc 2 m l os) (le:W.le W') (sm:Sm s s₁) (hx:SX C env fs W' s₁ (.exc 0 m l os) e s') :
    notedBy (model C.prog C.w) A env (fun e s'=>cameBackBy (model C.prog C.w) A env (SX C env fs W s r) e s') e s':=by
  obtain ⟨W2,a,rfl,le2,hex,sm2⟩:=hx
  obtain ⟨h₁,tk,H,hm⟩:=hex
  obtain ⟨b1,b2,b3⟩:=baseOf H
  have hrl:reals (⟨env,l⟩ :: fs)=env :: reals fs:=reals_top hf
  rw [hrl] at b3
  unfold notedBy
  refine notes_made hfr hf b2 b3 hm fun h2 t hheld htup hup=>?_
  unfold cameBackBy
  obtain ⟨f1,f2,f3,oe,vs,TT,oT,ts,he,hc,hd,h1,hnT,hTe,hT,hdT,h3⟩:=id hheld
  refine wpAny_bind (wpAny_field (s:={ s' with heap:=h2 }) he hd h1 ?_)
  rw [if_neg (show ¬ ((Value.ref TT == Value.none)=true) from by simp)]
  rw [hf]
  refine flight_held (s:={ s' with heap:=h2 }) hheld fun h3 hheld3 hup3=>?_
  rw [hr]
  refine ⟨W2,a,rfl,le.trans le2,?_,sm.trans ⟨sm2.1,sm2.2.1,sm2.2.2⟩⟩
  have up:h₁.UpToSlots h3:=((Heap.UpToSlots.of_keeps hm.keeps).trans hup).trans hup3
  have st:(dropA h₁ (List.map (fun x=>x.env.locals) (⟨env,l⟩ :: fs))).StaysIn h3:=hheld3.1
  refine ⟨H.slots b1 st up,_,t,tk,?_,htup.of_slots hup3,b1⟩
  rw [hrl]
  exact hheld3
theorem RS.cond_is {r:R V} {f g:List AO→RS} {x:RS} (e:RS.cond r f g=x) (h:x ≠ .fail):∃ b os,r=.ok (.bool b) os∧(match b with | true=>f os | false=>g os)=x:=by
  cases r with
  | ok v os=>cases v with
    | bool b=>exact ⟨b,os,rfl,e⟩
    | _=>exact absurd e.symm h
  | _=>exact absurd e.symm h
theorem RS.opt_is {α:Type} {o:Option α} {f:α→RS} {r:RS} (e:RS.opt o f=r) (h:r ≠ .fail):∃ a,o=some a∧f a=r:=by
  cases o with
  | none=>exact absurd e.symm h
  | some a=>exact ⟨a,rfl,e⟩
inductive BodyEnd (C:Cx) (env:Env) (fs:List FrD) (W W1:Wd) (s s1:Shared) (n:Nat) (again:List LV→List AO→RS) (Rr:RS) (s2:Shared):Flow→Prop
  | again (fl:Flow) (hf:fl=.next ∨ fl=.cont) (l:List LV) (os:List AO) (W2:Wd):W1.le W2→HR C (⟨env,l⟩ :: fs) W2 os s2.heap→Sm s1 s2→again (trim n l os).1 (trim n l os).2=Rr→BodyEnd C env fs W W1 s s1 n again Rr s2 fl
  | brk:SN C env fs W s Rr .next s2→BodyEnd C env fs W W1 s s1 n again Rr s2 .brk
  | ret (v:Value):SN C env fs W s Rr (.ret v) s2→BodyEnd C env fs W W1 s s1 n again Rr s2 (.ret v)
theorem bodyEnd {W1:Wd} {s1 s2:Shared} {n:Nat} {x:Bool} {r Rr:RS} {again:List LV→List AO→RS} {fl:Flow} (e:loopRes again n x r=Rr) (hf:Rr ≠ .fail) (le:W.le W1) (sm:Sm s s1) (h:SN C env fs W1 s1 r fl s2):BodyEnd C env fs W W1 s s1 n again Rr s2 fl:=by
  cases r with
  | next l os=>cases fl with
    | next=>obtain ⟨W2,le2,H2,sm2⟩:=h; exact .again _ (.inl rfl) l os W2 le2 H2 sm2 e
    | _=>exact h.elim
  | cont l os=>cases fl with
    | cont=>obtain ⟨W2,le2,H2,sm2⟩:=h; exact .again _ (.inr rfl) l os W2 le2 H2 sm2 e
    | _=>exact h.elim
  | brk l os=>cases fl with
    | brk=>cases e; obtain ⟨W2,le2,H2,sm2⟩:=h; exact .brk ⟨W2,le.trans le2,H2,sm.trans sm2⟩
    | _=>exact h.elim
  | ret v os=>cases fl with
    | ret y=>cases e; obtain ⟨W2,l2,le2,H2,hv,sm2⟩:=h; exact .ret y ⟨W2,l2,le.trans le2,H2,hv,sm.trans sm2⟩
    | _=>exact h.elim
  | _=>exact h.elim
theorem loop_ne {n:Nat} {x:Bool} {r Rr:RS} {again:List LV→List AO→RS} (e:loopRes again n x r=Rr) (hf:Rr ≠ .fail):r ≠ .fail:=fun q=>hf (by rw [← e,q]; rfl)
theorem loop_exc {n:Nat} {x:Bool} {r Rr:RS} {again:List LV→List AO→RS} {e:Value} {W1:Wd} {s1:Shared} (er:loopRes again n x r=Rr) (hf:Rr ≠ .fail) (h:SX C env fs W1 s1 r e s'):x=true∧∃ m l os,Rr=.exc 2 m l os∧SX C env fs W1 s1 (.exc 0 m l os) e s':=by
  cases r with
  | exc g m l os =>
    have er:(if (x&&g == 0)=true then RS.exc 2 m l os else .fail)=Rr:=er
    cases hc:(x&&g == 0) with
    | false=>rw [hc] at er; exact absurd er.symm hf
    | true =>
      obtain ⟨hx,hg⟩:=and_of hc
      cases eq_of_beq hg
      exact ⟨hx,m,l,os,(er.symm.trans (if_pos hc):Rr=.exc 2 m l os),h⟩
  | _=>exact h.elim
noncomputable def WhileI (C:Cx) (env:Env) (fs:List FrD) (W:Wd) (s:Shared) (c:List LV→List AO→R V) (g:List LV→List AO→RS) (Rr:RS) (k:Nat) (s':Shared):Prop:=∃ l' os' W',HR C (⟨env,l'⟩ :: fs) W' os' s'.heap∧W.le W'∧Sm s s'∧whileTurns c g k l' os'=Rr
theorem ss_while (hf:env.frame=some env.locals) (hfr:A.frames=some (env :: reals fs)) {e:Expr} {b:List Stmt} {pos:Pos} {c:List LV→List AO→R V} {g:List LV→List AO→RS}
    (h:∀ l,TS C A (⟨env,l⟩ :: fs) (isTrue e env (eval e env)) (c l)) (hb:SS C A env fs (PySem.execs b env) g) :
    SS C A env fs (exec (.While e b [] pos) env) (fun l os=>whileTurns c g K l os):=by
  intro l W os s H hr
  dsimp only at hr ⊢
  generalize hR:whileTurns c g K l os=Rr at hr ⊢
  refine wpAny_While (codeAny_whileLoop (WhileI C env fs W s c g Rr) ?_ K ⟨l,os,W,H,.refl _,.refl _,hR⟩)
  rintro k s' ⟨l',os',W',H',le',sm',er⟩
  cases k with
  | zero=>exact absurd er.symm hr
  | succ k =>
    obtain ⟨bb,os1,ec,er⟩:=RS.cond_is er hr
    refine wpAny_mono ((h l' W' os' s' H').run ec) (fun x s1 hx=>?_) fun _ _ x=>x
    obtain ⟨W1,le1,H1,ex,sm1⟩:=hx
    cases ex
    cases bb with
    | false =>
      cases er
      exact wpAny_execs_nil ⟨W1,le'.trans le1,H1,sm'.trans sm1⟩
    | true =>
      refine wpAny_mono (hb l' W1 os1 s1 H1 (loop_ne er hr)) (fun fl s2 hs=>?_) fun x s2 hs=>?_
      · cases bodyEnd er hr (le'.trans le1) (sm'.trans sm1) hs with
        | again fl hfl l2 os2 W2 le2 H2 sm2 e =>
          obtain ⟨W3,le3,H3,_⟩:=loopEnd (fun q m=>H1.frames q (List.mem_cons_of_mem _ m)) H1.len H2 le2
          have:∃ m,m < k+1∧WhileI C env fs W s c g Rr m s2:=⟨k,Nat.lt_succ_self _,_,_,W3,H3,(le'.trans le1).trans le3,(sm'.trans sm1).trans sm2,e⟩
          cases hfl with
          | inl hfl=>cases hfl; exact this
          | inr hfl=>cases hfl; exact this
        | brk h=>exact h
        | ret v h=>exact h
      · obtain ⟨_,m,l2,os2,e2,hs⟩:=loop_exc er hr hs
        exact through hf hfr e2 (le'.trans le1) (sm'.trans sm1) hs
theorem for_again {it:Addr} {o:Obj} {l' l3:List LV} {W' W3:Wd} {os3:List AO} {h' h3:Heap} {n:Nat} {src:Src} {j:Nat} (F0:∀ q ∈ fs,FR W' h' q) (hn:W'.φ.length=n) (Z:Hid C (⟨env,l'⟩ :: fs) W' it) (I:IO W' src j o)
    (le3:Wd.le ⟨W'.φ,(it,o) :: W'.kp⟩ W3) (H3:HR C (⟨env,l3⟩ :: fs) W3 os3 h3):∃ W5,HR C (⟨env,(trim n l3 os3).1⟩ :: fs) W5 (trim n l3 os3).2 h3∧W'.le W5∧Hid C (⟨env,(trim n l3 os3).1⟩ :: fs) W5 it∧h3.get? it=some o∧IO W5 src j o:=by
  have mk:(it,o) ∈ W3.kp:=le3.kp _ (.head _)
  have g3:h3.get? it=some o:=H3.kept _ mk
  have le4:W'.le (W3.off it):=le_off ((leK W' (it,o)).trans le3) Z.kp
  have Z4:Hid C (⟨env,l3⟩ :: fs) (W3.off it) it:=Hid.unhold H3 mk Z.base
  obtain ⟨W5,le5,H5,hW5⟩:=loopEnd F0 hn (H3.unhold g3 I.unused) le4
  refine ⟨W5,H5,le5,?_,g3,I.mono le5⟩
  rcases hW5 with rfl | rfl
  · exact ⟨Z4.fr,Z4.base,Z4.kp⟩
  · exact ⟨Z4.cut.fr,Z4.base,Z4.kp⟩
theorem seq_is {r Rr:RS} {f:List LV→List AO→RS} {l:List LV} {os:List AO} (e:r.seq f=Rr) (h:r=.next l os):f l os=Rr:=by
  rw [h] at e
  exact e
noncomputable def ForI (C:Cx) (env:Env) (fs:List FrD) (W:Wd) (s:Shared) (it:Addr) (src:Src) (i:Nat) (g:List LV→List AO→RS) (Rr:RS) (k:Nat) (s':Shared):Prop:=∃ j l' os' W' o,HR C (⟨env,l'⟩ :: fs) W' os' s'.heap∧W.le W'∧Sm s s'∧Hid C (⟨env,l'⟩ :: fs) W' it∧s'.heap.get? it=some o∧IO W' src j o∧forTurns src i g k j l' os'=Rr
theorem for_core (hh:A.handled=none) (nd:(env.scope.names.map (·.1)).Nodup) {b:List Stmt} {x:Str} {p:Pos} {i:Nat} {k:NameKind} {g:List LV→List AO→RS}
    (hx:slotOf x env.scope.names 0=some (i,k)) (hk:isOwn k=true) (hb:SS C A env fs (PySem.execs b env) g) {W1:Wd} {s2:Shared} {src:Src} {it:Addr} {o:Obj} {Rr:RS} (hf:Rr ≠ .fail)
    (le1:W.le W1) (sm1:Sm s s2) (H2:HR C (⟨env,l⟩ :: fs) W1 os s2.heap) (Z:Hid C (⟨env,l⟩ :: fs) W1 it) (gi:s2.heap.get? it=some o) (I:IO W1 src 0 o) (hR:forTurns src i g K 0 l os=Rr) :
    codeAny (model C.prog C.w) A (.forLoop (.Name x p) (.ref it) b [] env) (fun r s'=>match r with
      | .ok fl=>SN C env fs W s Rr fl s'
      | .error e=>cameBackBy (model C.prog C.w) A env (SX C env fs W s Rr) e s') s2:=by
  refine codeAny_forLoop_any (ForI C env fs W s it src i g Rr) ?_ K ⟨0,l,os,W1,o,H2,le1,sm1,Z,gi,I,hR⟩
  rintro k' s' ⟨j,l',os',W',oi,H',le',sm',Z',gi',I',er⟩
  cases k' with
  | zero=>exact absurd er.symm hf
  | succ k' =>
    obtain ⟨ov,esrc,er⟩:=RS.opt_is er hf
    refine wpAny_mono (sat_next hh H' Z' gi' I' esrc) (fun y s₁ hy=>?_) (fun _ _ x=>x)
    cases ov with
    | none =>
      obtain ⟨H₁,sm₁,rfl⟩:=hy
      cases er
      exact wpAny_execs_nil ⟨W',le',H₁,sm'.trans sm₁⟩
    | some v =>
      obtain ⟨H₁,sm₁,y',o',rfl,hv,go',I₁⟩:=hy
      have er:(setLoc l' os' i v).seq (fun l s=>loopRes (forTurns src i g k' (j+1)) s.length false (g l s))=Rr:=er
      have hset1:setLoc l' os' i v ≠ .fail:=fun q=>hf (by rw [← er,q])
      refine wpAny_pure (wpAny_assign_Name (wpAny_mono (sat_store (f:=⟨env,l'⟩) (H₁.hold Z' go') nd hx hk (hv.mono (leK _ _)) hset1) (fun _ s₂ hs₂=>?_) (fun _ _ x=>x)))
      obtain ⟨l2,os2,e2,H₂,sm₂⟩:=hs₂
      have er:=seq_is er e2
      have hn:W'.φ.length=os2.length:=H₂.len
      have smA:=(sm'.trans sm₁).trans sm₂
      refine wpAny_mono (hb l2 _ os2 s₂ H₂ (loop_ne er hf)) (fun fl s3 hs3=>?_) fun x s3 hs3=>?_
      · cases bodyEnd er hf (le'.trans (leK _ _)) smA hs3 with
        | again fl hfl l3 os3 W3 le3 H3 sm3 e =>
          obtain ⟨W5,H5,le5,Z5,g5,I5⟩:=for_again (fun q m=>H₁.frames q (List.mem_cons_of_mem _ m)) hn Z' I₁ le3 H3
          have:∃ m,m < k'+1∧ForI C env fs W s it src i g Rr m s3 :=
            ⟨k',Nat.lt_succ_self _,j+1,_,_,W5,o',H5,le'.trans le5,smA.trans sm3,Z5,g5,I5,e⟩
          cases hfl with
          | inl hfl=>cases hfl; exact this
          | inr hfl=>cases hfl; exact this
        | brk h=>exact h
        | ret v h=>exact h
      · exact Bool.noConfusion (loop_exc er hf hs3).1
theorem ss_for (hh:A.handled=none ∨ K=0) {ns:Names} (hN:Nrel ns env.scope.names) {it0:Expr} {b:List Stmt} {x:Str} {p pos:Pos} {i:Nat} {k:NameKind} {c:List LV→List AO→R V} {g:List LV→List AO→RS}
    (hx:slotOf x env.scope.names 0=some (i,k)) (hk:isOwn k=true) (hset:isSet it0=false)
    (h:∀ l,ES C A (⟨env,l⟩ :: fs) (eval it0 env) (c l)) (hb:SS C A env fs (PySem.execs b env) g) :
    SS C A env fs (exec (.For (.Name x p) it0 b [] pos) env) (fun l os=>(c l os).st l fun v os=>RS.opt (srcOf os v) fun src=>forTurns src i g K 0 l os):=by
  intro l W os s H hf
  dsimp only at hf ⊢
  have hr:c l os ≠ .fail:=by intro q; rw [q] at hf; exact hf rfl
  refine wpAny_For (wpAny_mono (h l W os s H hr) ?_ ?_) (noFold hset env)
  · rintro v s1 ⟨a,os1,W1,e1,le1,H1,q1,sm1⟩
    rw [e1] at hf ⊢
    obtain ⟨src,es,hf'⟩:=RS.opt_ne hf
    have e0:RS.opt (srcOf os1 a) (fun src=>forTurns src i g K 0 l os1)=forTurns src i g K 0 l os1:=RS.opt_eq es
    dsimp only [R.st] at hf ⊢
    rw [e0]
    have hh:A.handled=none:=hh.elim id fun h=>by subst h; exact absurd rfl hf'
    refine wpAny_mono (sat_iter q1 H1 es) (fun y s2 hy=>?_) (fun _ _ x=>x)
    obtain ⟨it,o,rfl,H2,sm2,Z,gi,I⟩:=hy
    exact for_core hh hN.nd hx hk hb hf' le1 (sm1.trans sm2) H2 Z gi I rfl
  · rintro v s1 ⟨m,os1,W1,b,e1,rfl,le1,X1,sm1⟩
    rw [e1]
    exact ⟨W1,b,rfl,le1,X1,sm1⟩
end
end Mine
end
section
open PySem PySem.W PySem.Calls PyProof.Rows
set_option backward.match.sparseCases false
set_option tactic.hygienic false
namespace Mine
section
variable {C:Cx} {N:Nm} {T:Tab} {F:Fns} {env:Env} {fs:List FrD} {W W':Wd} {s s':Shared} {A:Around} {t:Sem Flow} {l:List LV} {os:List AO} {h:Heap} {K:Nat} {cf:Nat→List V→List AO→R V}
theorem ss_raise (X:CxOk C) (hG:GlobOk C N T F) (hh:A.handled=none) {m:Str} {np mp cpos pos:Pos} {k:Nat} (hg:glob env.scope.names "ValueError"=true) :
    SS C A env fs (exec (.Raise (some (.Call (.Name "ValueError" np) [.Constant (.str m) k mp] [] cpos)) none pos) env) (fun l os=>.exc 0 m.cps.toList l os):=by
  intro l W os s H hf
  refine wpAny_Raise_call PySem.F.excCall_ValueError PySem.F.excRaise_ValueError hh rfl ?_
  refine wp_global (f:=⟨env,l⟩) X H List.mem_cons_self hg (by decide) (.inr hG.exc) ⟨rfl,?_⟩
  rw [backTo_star (es:=[.Constant (.str m) k mp]) rfl,evalArgs_map]
  show wpAny _ _ ((eval (.Constant (.str m) k mp) env >>= fun v=>Pure.pure [v] >>= fun here=>holding here (spliced []) >>= fun r=>Pure.pure (here++r)) >>= _) _ _ _
  refine wpAny_bind (wpAny_bind (Calls.Constant_str (wpAny_bind (wpAny_pure (wpAny_bind (wpAny_holding ?_))))))
  show wpAny _ _ (Pure.pure []) _ _ _
  refine wpAny_pure (wpAny_pure (wpAny_holding ?_))
  show wpAny _ _ (evalAll [] >>= fun _=>Pure.pure _ >>= fun p=>Pure.pure (⟨p,[]⟩:Args)) _ _ _
  refine wpAny_bind (m:=evalAll []) (wpAny_pure (wpAny_bind (wpAny_pure (wpAny_pure ?_))))
  refine ⟨rfl,by simp [sizeLine],fun h' e hm=>?_⟩
  have hxs:m=strV m.cps.toList:=by cases m; rfl
  refine ⟨W,e,rfl,.refl _,⟨s.heap,s.toks,H,?_⟩,⟨rfl,rfl,rfl⟩⟩
  obtain ⟨q1,q2,q3⟩:=hm
  refine ⟨q1,q2,?_⟩
  rw [← hxs]
  exact q3
theorem OR.notTup {ao:AO} {ob:Obj} (r:OR C W ao ob):¬ (ob.cls=.type "tuple"∧∃ xs n,ob.data=.seq xs n):=by
  rintro ⟨hc,xs,n,hd⟩
  have dob:∀ {KT:Type} [DecidableEq KT] {knd:KeyKind C.prog C.w KT} {o:Obj} {kvs:List (KT × Value)},DObj knd o kvs→o.data=.seq xs n→False:=by
    rintro KT _ knd o kvs ⟨es,ep,_,e,_⟩ hd
    rw [e] at hd; cases hd
  cases r with
  | list vs ys k r q=>injection hc with q; exact absurd q (by decide)
  | inst c d Ca dx a b=>cases hd
  | attrs l es o r q=>exact dob q hd
  | deque vs ys st r q=>cases hd
  | dict l es o r q=>exact dob q hd
  | keys l o q=>exact dob q hd
  | ords l o q=>exact dob q hd
  | cell v o x r e=>rw [e] at hd; cases hd
theorem OR.notExc {ao:AO} {ob:Obj} (r:OR C W ao ob):¬ (ob.cls=.type "ValueError"∧∃ vs,ob.data=.fields vs):=by
  rintro ⟨hc,vs,hd⟩
  have dob:∀ {KT:Type} [DecidableEq KT] {knd:KeyKind C.prog C.w KT} {o:Obj} {kvs:List (KT × Value)},DObj knd o kvs→o.data=.fields vs→False:=by
    rintro KT _ knd o kvs ⟨es,ep,_,e,_⟩ hd
    rw [e] at hd; cases hd
  cases r with
  | list vs ys k r q=>cases hd
  | inst c d Ca dx a b=>cases hd
  | attrs l es o r q=>exact dob q hd
  | deque vs ys st r q=>injection hc with q; exact absurd q (by decide)
  | dict l es o r q=>exact dob q hd
  | keys l o q=>exact dob q hd
  | ords l o q=>exact dob q hd
  | cell v o x r e=>rw [e] at hd; cases hd
theorem HR.offTup (H:HR C fs W os h) {a:Addr} {ob:Obj} (g:h.get? a=some ob) (hc:(ob.cls=.type "tuple"∧∃ xs n,ob.data=.seq xs n) ∨ (ob.cls=.type "ValueError"∧∃ vs,ob.data=.fields vs)):a ∉ fs.map (·.env.locals)++W.φ:=by
  intro m
  rcases List.mem_append.mp m with m | m
  · obtain ⟨f,mf,rfl⟩:=List.mem_map.mp m
    obtain ⟨mm,⟨o,es,ep,ho,hd,_⟩,_⟩:=(H.frames f mf).ns
    rw [g] at ho; cases ho
    rcases hc with ⟨_,xs,n,q⟩ | ⟨_,vs,q⟩<;>(rw [hd] at q; cases q)
  · obtain ⟨i,hi,rfl⟩:=List.getElem_of_mem m
    have hi':i < os.length:=by rw [← H.len]; exact hi
    obtain ⟨o',q,r⟩:=H.objs i os[i] W.φ[i] (List.getElem?_eq_getElem hi') (List.getElem?_eq_getElem hi)
    rw [g] at q; cases q
    rcases hc with hc | hc
    · exact r.notTup hc
    · exact r.notExc hc
theorem HR.hold2 (H:HR C fs W os h) {it:Addr} {o:Obj} (Z:it ∉ fs.map (·.env.locals)++W.φ) (g:h.get? it=some o):HR C fs ⟨W.φ,(it,o) :: W.kp⟩ os h where
  base:=H.base
  kept p m:=by
    rcases List.mem_cons.mp m with rfl | m
    · exact g
    · exact H.kept p m
  len:=H.len
  objs i o a e1 e2:=let ⟨ob,x,y⟩:=H.objs i o a e1 e2; ⟨ob,x,OR.mono (leK W _) y⟩
  frames f m:=(H.frames f m).mono (leK W _)
  nodup:=H.nodup
  apart a m:=⟨(H.apart a m).1,fun p hp=>by
    rcases List.mem_cons.mp hp with rfl | hp
    · intro e; dsimp only at e; subst e; exact Z m
    · exact (H.apart a m).2 p hp⟩
theorem slot_uniq {ns:Names} (nd:(ns.map (·.1)).Nodup) {x:Str} {i j:Nat} {k k':NameKind} (h:ns[i]?=some (x,k)) (h':ns[j]?=some (x,k')):i=j:=by
  have a1:(ns.map (·.1))[i]?=some x:=by rw [List.getElem?_map,h]; rfl
  have a2:(ns.map (·.1))[j]?=some x:=by rw [List.getElem?_map,h']; rfl
  obtain ⟨p1,r1⟩:=List.getElem?_eq_some_iff.mp a1
  obtain ⟨p2,r2⟩:=List.getElem?_eq_some_iff.mp a2
  exact (List.getElem_inj nd).mp (r1.trans r2.symm)
theorem sat_unbind {W3:Wd} {l3:List LV} {os3:List AO} {s10:Shared} (H3:HR C (⟨env,l3⟩ :: fs) W3 os3 s10.heap) (nd:(env.scope.names.map (·.1)).Nodup) (hk:env.scope.kind=.function) {y:Str} {i:Nat} {hpos:Pos} (hx:slotOf y env.scope.names 0=some (i,.local))
    {Q:Unit→Shared→Prop} {E:Value→Shared→Prop} (hQ:∀ s',HR C (⟨env,l3.set i .un⟩ :: fs) W3 os3 s'.heap→Sm s10 s'→Q () s'):wpAny (model C.prog C.w) A (do bindName env y .none; unbindBehindTheSuite env y hpos) Q E s10:=by
  obtain ⟨_,e1,e2'⟩:=slotOf_spec y _ _ _ _ hx
  rw [Nat.sub_zero] at e1
  have F3:=H3.frames ⟨env,l3⟩ List.mem_cons_self
  obtain ⟨mm,hn3,hl3⟩:=F3.ns
  refine wpAny_nameGoes_keeps e2' hn3 (by rw [hk]; rfl) fun h' v hn' sb=>hQ _ ?_ ⟨rfl,rfl,rfl⟩
  refine H3.setL (f:=⟨env,l3⟩) sb hn' (fun j x k v' q1 q2=>?_) (fun j x q1 v' q2=>?_)
  · by_cases hj:j=i
    · subst hj
      by_cases hlt:j < l3.length
      · rw [List.getElem?_set_self hlt] at q2; cases q2; trivial
      · rw [List.getElem?_eq_none (by rw [List.length_set]; exact Nat.le_of_not_lt hlt)] at q2; cases q2
    · rw [List.getElem?_set_ne (Ne.symm hj)] at q2
      have:=hl3 j x k v' q1 q2
      cases v' with
      | un=>trivial
      | val w =>
        obtain ⟨a1,z,b1,c1⟩:=this
        exact ⟨a1,z,(if_neg fun e=>hj (slot_uniq nd (e ▸ q1) e1)).trans b1,c1⟩
      | cel j=>exact this
  · by_cases hj:j=i
    · subst hj; rw [e1] at q1; cases q1
    · rw [List.getElem?_set_ne (Ne.symm hj)] at q2
      exact F3.cel j x q1 v' q2
set_option tactic.hygienic true in
theorem handled_is {r Rr:RS} {i:Nat} (e:r.handled i=Rr) (h:Rr ≠ .fail):(∃ l s,r=.next l s∧Rr=.next (l.set i .un) s) ∨ ∃ l s,r=.brk l s∧Rr=.brk (l.set i .un) s:=by
  cases r with
  | next l s=>exact .inl ⟨l,s,rfl,e.symm⟩
  | brk l s=>exact .inr ⟨l,s,rfl,e.symm⟩
  | _=>exact absurd e.symm h
theorem seq_ne {r Rr:RS} {f:List LV→List AO→RS} (e:r.seq f=Rr) (h:Rr ≠ .fail):r ≠ .fail:=fun q=>h (by rw [← e,q])
set_option tactic.hygienic true in
theorem try_core (X:CxOk C) (hG:GlobOk C N T F) (hf:env.frame=some env.locals) (hfr:A.frames=some (env :: reals fs)) {h₀:Stmt} {hs:List Stmt} {y:Str} {np hpos:Pos} (hg:glob env.scope.names "ValueError"=true)
    {W1:Wd} {os1:List AO} {l1:List LV} {m:List Nat} {a:Addr} {s1:Shared} (X1:XR C (⟨env,l1⟩ :: fs) W1 os1 m a s1.heap) (hm:m.length ≤ lim) {Q:Flow→Shared→Prop} {E:Value→Shared→Prop}
    (hS:∀ (h6:Heap) (W8:Wd) (E':Value→Shared→Prop),HR C (⟨env,l1⟩ :: fs) W8 os1 h6→VR W8 (.exc m) (.ref a)→W1.le W8→wpAny (model C.prog C.w) (A.mark (some (.ref a))) (storeName env y (.ref a)) (fun _ s3 =>
      wpAny (model C.prog C.w) (A.mark (some (.ref a))) (PySem.execs (h₀ :: hs) env) (fun f s₄=>wpAny (model C.prog C.w) A (do bindName env y .none; unbindBehindTheSuite env y hpos) (fun _ s₅=>Q f s₅) E s₄) (fun _ _=>False) s3) E' { s1 with heap:=h6 }) :
    wpAny (model C.prog C.w) A (noteFrame (.ref a) env) (fun _ s₂=>wpAny (model C.prog C.w) A (setFlight (.ref a) none) (fun _ s₃=>wpAny (model C.prog C.w) A (handleBy (.ref a) env [.ExceptHandler (some (.Name "ValueError" np)) (some y) (h₀ :: hs) hpos]) Q E s₃) E s₂) E s1:=by
  obtain ⟨B,t,tk,fly,tup,bo⟩:=X1.base
  rw [reals_top hf] at fly
  refine wpAny_looks_onW hfr hf fly fun h4 held4 up4=>?_
  refine wpAny_landsW (s:={ s1 with heap:=h4 }) held4 fun h5 fly5 up5=>?_
  have up:s1.heap.UpToSlots h5:=up4.trans up5
  clear held4 fly up4 up5
  obtain ⟨ob,hob,hobc⟩:=fly5.there
  have H5:HR C (⟨env,l1⟩ :: fs) W1 os1 ({ s1 with heap:=h5 }:Shared).heap:=X1.hr.slots bo fly5.1 up
  refine wpAny_handleBy_builtin_as (X:="ValueError") (T:="ValueError") (b:=true) PySem.F.isExc_ValueError PySem.F.notTuple_ValueError (by rw [isSubtype_type]; kernel_rfl) ?_
  refine wp_global (f:=⟨env,l1⟩) (s:={ s1 with heap:=h5 }) X H5 List.mem_cons_self hg (by decide) (.inr hG.exc) ⟨rfl,⟨ob,hob,hobc⟩,?_⟩
  rw [if_pos rfl]
  refine lands_againW (s:={ s1 with heap:=h5 }) fly5 fun h6 fly6 up6=>?_
  have up:=up.trans up6
  have H6:HR C (⟨env,l1⟩ :: fs) W1 os1 h6:=X1.hr.slots bo fly6.1 up
  obtain ⟨oe,vs,ge,gc,gd,g0⟩:=fly6.first
  obtain ⟨ot,nt,gt,gtc,gtd⟩:=tup.of_slots up
  have H7:=H6.hold2 (H6.offTup gt (.inl ⟨gtc,_,_,gtd⟩)) gt
  have H8:=H7.hold2 (H6.offTup ge (.inr ⟨gc,_,gd⟩)) ge
  exact wpAny_mono (hS h6 _ _ H8 (.exc m a t oe ot vs nt tk (.head _) (.tail _ (.head _)) gc gd g0 gtc gtd hm) ⟨List.prefix_refl _,fun p q=>.tail _ (.tail _ q)⟩) (fun _ _ h=>wpAny_mono h (fun _ _ x=>x) fun _ _ x=>x.elim) fun _ _ x=>x
theorem try_end (nd:(env.scope.names.map (·.1)).Nodup) (hk:env.scope.kind=.function) {y:Str} {i:Nat} {hpos:Pos} (hx:slotOf y env.scope.names 0=some (i,.local)) {W8:Wd} {r Rr:RS} (e:r.handled i=Rr) (hr:Rr ≠ .fail) {s9 s10:Shared} {fl:Flow} (le:W.le W8) (sm:Sm s s9) (hn:SN C env fs W8 s9 r fl s10) {E:Value→Shared→Prop} :
    wpAny (model C.prog C.w) A (do bindName env y .none; unbindBehindTheSuite env y hpos) (fun _ s₅=>SN C env fs W s Rr fl s₅) E s10:=by
  rcases handled_is e hr with ⟨l3,os3,eg,er⟩ | ⟨l3,os3,eg,er⟩
  · rw [eg] at hn
    rw [er]
    cases fl with
    | next =>
      obtain ⟨W3,le3,H3,sm3⟩:=hn
      exact sat_unbind H3 nd hk hx fun s' H' sm'=>⟨W3,le.trans le3,H',(sm.trans sm3).trans sm'⟩
    | _=>exact hn.elim
  · rw [eg] at hn
    rw [er]
    cases fl with
    | brk =>
      obtain ⟨W3,le3,H3,sm3⟩:=hn
      exact sat_unbind H3 nd hk hx fun s' H' sm'=>⟨W3,le.trans le3,H',(sm.trans sm3).trans sm'⟩
    | _=>exact hn.elim
theorem try_noX {W8:Wd} {i:Nat} {r Rr:RS} (e:r.handled i=Rr) (hr:Rr ≠ .fail) {s9 s10:Shared} {x:Value} (h:SX C env fs W8 s9 r x s10):False:=by
  rcases handled_is e hr with ⟨l3,os3,eg,_⟩ | ⟨l3,os3,eg,_⟩
  · rw [eg] at h; exact h
  · rw [eg] at h; exact h
theorem try_same {r:RS} {fl:Flow} {i:Nat} {gH:List LV→List AO→RS} {s1:Shared} (hn:SN C env fs W s r fl s1):SN C env fs W s (tryRes i gH r) fl s1:=by
  cases r with
  | exc _ _ _ _=>exact hn.elim
  | fail=>exact hn.elim
  | _=>exact hn
theorem ss_try (X:CxOk C) (hG:GlobOk C N T F) (hf:env.frame=some env.locals) (hfr:A.frames=some (env :: reals fs)) (nd:(env.scope.names.map (·.1)).Nodup) (hk:env.scope.kind=.function)
    {b:List Stmt} {h₀:Stmt} {hs:List Stmt} {y:Str} {np hpos pos:Pos} {i:Nat} {g gH:List LV→List AO→RS}
    (hg:glob env.scope.names "ValueError"=true) (hx:slotOf y env.scope.names 0=some (i,.local)) (hb:SS C A env fs (PySem.execs b env) g)
    (hH:∀ e:Value,SS C (A.mark (some e)) env fs (PySem.execs (h₀ :: hs) env) gH) :
    SS C A env fs (exec (.Try b [.ExceptHandler (some (.Name "ValueError" np)) (some y) (h₀ :: hs) hpos] [] [] pos) env) (fun l os=>tryRes i gH (g l os)):=by
  intro l W os s H hr
  dsimp only at hr ⊢
  have hgf:g l os ≠ .fail:=by intro q; rw [q] at hr; exact absurd rfl hr
  have hb:=hb l W os s H hgf
  generalize g l os=r at hr hb
  refine wpAny_Try_except (wpAny_mono hb (fun fl s1 hn=>by
    cases fl with
    | next=>exact wpAny_execs_nil (try_same hn)
    | _=>exact try_same hn) fun x s1 hx1=>?_)
  cases r with
  | exc gg m l1 os1 =>
    have hc:(gg == 1&&decide (m.length ≤ lim))=true:=ite_ne hr
    have e0:tryRes i gH (.exc gg m l1 os1)=(setLoc l1 os1 i (.exc m)).seq fun l s=>(gH l s).handled i:=if_pos hc
    obtain ⟨h1,hm⟩:=and_of hc
    generalize tryRes i gH (.exc gg m l1 os1)=Rr at hr e0 ⊢
    obtain ⟨W1,a,ee,le1,X1,sm1⟩:=hx1
    rw [eq_of_beq h1] at X1
    rw [ee]
    refine try_core X hG hf hfr hg X1 (of_decide_eq_true hm) fun h6 W8 E' H8 hv le8=>?_
    refine wpAny_mono (sat_store (f:=⟨env,l1⟩) (s:={ s1 with heap:=h6 }) H8 nd hx rfl hv (seq_ne e0.symm hr)) (fun _ s9 hs9=>?_) fun _ _ x=>x
    obtain ⟨l2,os2,e2,H9,sm9⟩:=hs9
    have e3:=seq_is e0.symm e2
    exact wpAny_mono (hH (.ref a) l2 W8 os2 s9 H9 (fun q=>hr (by rw [← e3,q]; rfl))) (fun fl s10 hn=>try_end nd hk hx e3 hr (le1.trans le8) (sm1.trans ⟨sm9.1,sm9.2.1,sm9.2.2⟩) hn) fun x s10 h=>try_noX e3 hr h
  | _=>exact hx1.elim
end
section
variable {C:Cx} {N:Nm} {F:Fns}
theorem ctx_fr {env:Env} {fs:List FrD} {l:List LV} (hf:env.frame=some env.locals):FrIn ⟨env,l⟩ (⟨env,l⟩ :: fs):=⟨env.locals,hf,List.mem_cons_self⟩
theorem ss_bad {T:Tab} {cf:Nat→List V→List AO→R V} {K:Nat} {A:Around} {env:Env} {fs:List FrD} {t:Sem Flow}:SS C A env fs t (execS T cf K .bad):=fun l W os s H=>SatS.fail
theorem noSwap {e:Expr} (h:isComp e=false) (t:Option Expr) (ln:Nat) (env:Env):swapsWith e t ln env=pure false:=by
  cases e<;>first | rfl | cases h
section
variable {T:Tab} {cf:Nat→List V→List AO→R V} {K d:Nat} {A:Around} {env:Env} {fs:List FrD} {ns:Names} {t:Sem Flow}
theorem SS.opt {α:Type} {o:Option α} {g:α→St} (h:∀ a,o=some a→SS C A env fs t (execS T cf K (g a))):SS C A env fs t (execS T cf K (St.opt o g)):=by
  cases o with
  | none=>exact ss_bad
  | some a=>exact h a rfl
theorem SS.iff {b:Bool} {x:St} (h:b=true→SS C A env fs t (execS T cf K x)):SS C A env fs t (execS T cf K (St.iff b x)):=by
  cases b with
  | false=>exact ss_bad
  | true=>exact h rfl
theorem SS.nohd {b:Bool} {g:List LV→List AO→RS} (h:b=false→SS C A env fs t g):SS C A env fs t (fun l os=>RS.nohd b (g l os)):=by
  cases b with
  | true=>exact fun l W os s H=>SatS.fail
  | false=>exact h rfl
theorem noHd (Q:Ctx C N T F cf K A d) (h:T.hd=false):A.handled=none:=Q.hh.elim id fun q=>by rw [h] at q; exact noTrue q.1
theorem call_of {e:Expr} (h:isCall e=true):∃ f as ks p,e=.Call f as ks p:=by
  cases e<;>first | exact ⟨_,_,_,_,rfl⟩ | exact noTrue h
theorem nil_of {α:Type} {l:List α} (h:l.isEmpty=true):l=[]:=List.isEmpty_iff.mp h
section
variable {r:Expr→Ex} (E1:∀ (e:Expr) (l:List LV),ES C A (⟨env,l⟩ :: fs) (eval e env) (evalE T cf K l false (r e)))
include E1
theorem ss_asgE (Q:Ctx C N T F cf K A d) (hN:Nrel ns env.scope.names) (e tg:Expr) (pos:Pos):SS C A env fs (exec (.Assign [tg] e pos) env) (execS T cf K (asgE N ns r e tg)):=by
  cases tg with
  | Name x p =>
    refine SS.opt fun q ex=>SS.iff fun hk=>?_
    obtain ⟨hk,hc⟩:=and_of hk
    exact ss_asg hN.nd (nrel_own hN ex hk) hk (noSwap (not_of hc) _ _ _) (E1 e)
  | Attribute o a p=>exact SS.opt fun i ei=>SS.iff fun hc=>ss_asgA Q.X Q.hT (by rw [Q.nm]; exact (posOf_spec _ _ _ ei).2) (noSwap (not_of hc) _ _ _) (E1 e) (E1 o)
  | Subscript o k p=>exact SS.iff fun hc=>ss_asgI (noSwap (not_of hc) _ _ _) (E1 e) (E1 o) (E1 k)
  | Tuple es k p =>
    refine SS.iff fun hc=>SS.opt fun is ei=>SS.nohd fun hd=>?_
    obtain ⟨f,as,ks,cp,rfl⟩:=call_of hc
    exact ss_unp (noHd Q hd) hN ei rfl rfl (E1 _)
  | _=>exact ss_bad
theorem ss_augE (Q:Ctx C N T F cf K A d) (hN:Nrel ns env.scope.names) (o:Op) (e tg:Expr) (pos:Pos):SS C A env fs (exec (.AugAssign tg (opO o) e pos) env) (execS T cf K (augE N ns r o e tg)):=by
  cases tg with
  | Name x p =>
    refine SS.opt fun q ex=>SS.iff fun hk=>?_
    obtain ⟨hk,ho⟩:=and_of hk
    exact ss_aug hN.nd (nrel_own hN ex hk) hk ho (E1 e)
  | Attribute x a p=>exact SS.opt fun i ei=>ss_augA Q.X Q.hT (by rw [Q.nm]; exact (posOf_spec _ _ _ ei).2) (E1 e) (E1 x)
  | _=>exact ss_bad
end
theorem veArg_of {e:Expr} {m:Str} (h:veArg ns e=some m):∃ np k mp cp,e=.Call (.Name "ValueError" np) [.Constant (.str m) k mp] [] cp∧glob ns "ValueError"=true:=by
  cases e with
  | Call f as ks p =>
    obtain ⟨x,ex,h1⟩:=bindSome h
    obtain ⟨hc,h2⟩:=iteO h1
    obtain ⟨a,ea,h3⟩:=bindSome h2
    obtain ⟨k,mp,rfl⟩:=strC_of h3
    clear h h1 h2 h3
    obtain ⟨np,rfl⟩:=name_of ex
    obtain ⟨hc,hk⟩:=and_of hc
    obtain ⟨hx,hg⟩:=and_of hc
    cases one_is ea
    cases nil_of hk
    cases eq_of_beq hx
    exact ⟨np,k,mp,p,rfl,hg⟩
  | _=>exact noSome h
theorem isVe_of {e:Expr} (h:isVe ns e=true):∃ np,e=.Name "ValueError" np∧glob ns "ValueError"=true:=by
  unfold isVe at h
  cases ex:nameOf e with
  | none=>rw [ex] at h; exact noTrue h
  | some x =>
    rw [ex] at h
    obtain ⟨np,rfl⟩:=name_of ex
    obtain ⟨hx,hg⟩:=and_of h
    cases eq_of_beq hx
    exact ⟨np,rfl,hg⟩
theorem Ctx.mark (Q:Ctx C N T F cf K A d) (e:Value):Ctx C N { T with hd:=true } F (fun _ _ _=>.fail) 0 (A.mark (some e)) d:=by
  have hT:=Q.hT
  refine ⟨Q.X,⟨hT.nd,hT.fv,hT.bind,hT.own,hT.meth,hT.prop⟩,⟨Q.hG.fn,Q.hG.bi,Q.hG.isi,Q.hG.str,Q.hG.dict,Q.hG.deque,Q.hG.typ,Q.hG.exc⟩,?_,⟨Q.hA.depth,Q.hA.units⟩,.inr ⟨rfl,rfl⟩,Q.nm,fun x h=>?_,fun x h=>?_⟩
  · intro g fn fa fd _ _ _ A fs W os s vs args _ _ _ _ _ hf
    exact absurd rfl hf
  · obtain ⟨Ca,v1,v2⟩:=Q.newS x h
    exact ⟨Ca,v1,v2.cls,v2.keep,v2.init⟩
  · obtain ⟨Ca,v1,v2⟩:=Q.newL x h
    exact ⟨Ca,v1,v2.cls,v2.keep,v2.init⟩
end
theorem ss_list {T:Tab} {cf:Nat→List V→List AO→R V} {K:Nat} {A:Around} {env:Env} {fs:List FrD} {g:Stmt→St} (h:∀ a,SS C A env fs (exec a env) (execS T cf K (g a))):∀ sts:List Stmt,SS C A env fs (PySem.execs sts env) (Mine.execs T cf K (stsMap g sts))
  | []=>sss_nil
  | a :: r=>sss_cons (h a) (ss_list h r)
theorem mainS (n:Nat):∀ (T:Tab) (cf:Nat→List V→List AO→R V) (K d:Nat) (A:Around) (env:Env) (fs:List FrD) (ns:Names) (st:Stmt),Ctx C N T F cf K A d→Nrel ns env.scope.names→env.scope.kind=.function→env.frame=some env.locals →
    A.frames=some (env :: reals fs)→SS C A env fs (exec st env) (execS T cf K (cS N n ns st)):=by
  induction n with
  | zero=>intro T cf K d A env fs ns st _ _ _ _ _; exact ss_bad
  | succ n ih =>
    intro T cf K d A env fs ns st Q hN hkf hf hfr
    have B:=fun (e:Expr) (l:List LV)=>mainE (T:=T) (cf:=cf) (K:=K) n ns e (⟨env,l⟩ :: fs) ⟨env,l⟩ Q List.mem_cons_self hN (ctx_fr hf) (by rw [reals_top hf]; exact hfr)
    have E1:∀ (e:Expr) (l:List LV),ES C A (⟨env,l⟩ :: fs) (eval e env) (evalE T cf K l false (cE N n ns e)):=fun e l=>(B e l).1
    have L1:∀ sts:List Stmt,SS C A env fs (PySem.execs sts env) (Mine.execs T cf K (stsMap (cS N n ns) sts)):=ss_list fun a=>ih T cf K d A env fs ns a Q hN hkf hf hfr
    cases st with
    | Pass pos=>exact ss_pass
    | Break pos=>exact ss_brk
    | Continue pos=>exact ss_cont
    | Expr e pos=>exact SS.iff fun h=>ss_expr hkf (noSwap (not_of h) _ _ _) (E1 e)
    | Return e pos =>
      refine SS.opt fun e' h=>?_
      cases h
      exact ss_ret (E1 e')
    | If c a b pos=>exact ss_if (fun l=>(B c l).2) (L1 a) (L1 b)
    | While c b el pos =>
      refine SS.iff fun h=>?_
      cases nil_of h
      exact ss_while hf hfr (fun l=>(B c l).2) (L1 b)
    | For tg it b el pos =>
      refine SS.opt fun x ex=>SS.opt fun q eq=>SS.iff fun h=>?_
      obtain ⟨h,hs⟩:=and_of h
      obtain ⟨hl,hk⟩:=and_of h
      obtain ⟨p,rfl⟩:=name_of ex
      cases nil_of hl
      exact ss_for (Q.hh.elim .inl fun h=>.inr h.2) hN (nrel_own hN eq hk) hk (not_of hs) (E1 it) (L1 b)
    | Assign tg e pos =>
      refine SS.opt fun t et=>?_
      cases one_is et
      exact ss_asgE E1 Q hN e t pos
    | AugAssign t o e pos =>
      refine SS.opt fun p ep=>?_
      rw [← opO_opOf ep]
      exact ss_augE E1 Q hN p e t pos
    | Raise ex cz pos =>
      refine SS.opt fun e he=>SS.opt fun m hm=>SS.iff fun hc=>SS.nohd fun hd=>?_
      cases he
      obtain ⟨np,k,mp,cp,rfl,hg⟩:=veArg_of hm
      cases Option.isNone_iff_eq_none.mp hc
      exact ss_raise Q.X Q.hG (noHd Q hd) (hN.glob hg)
    | Try b hs el fi pos =>
      refine SS.iff fun h=>SS.opt fun hd' hh=>?_
      obtain ⟨h1,h2⟩:=and_of h
      cases nil_of h1
      cases nil_of h2
      cases one_is hh
      cases hd' with
      | ExceptHandler t y h p =>
        refine SS.opt fun t' et=>SS.opt fun y' ey=>SS.opt fun q eq=>SS.iff fun hx=>SS.nohd fun hd=>?_
        cases et
        cases ey
        obtain ⟨hx,hne⟩:=and_of hx
        obtain ⟨hl,hv⟩:=and_of hx
        obtain ⟨np,rfl,hg⟩:=isVe_of hv
        obtain ⟨i,k⟩:=q
        cases isLoc_of hl
        cases h with
        | nil=>exact noTrue hne
        | cons h0 hr =>
          exact ss_try Q.X Q.hG hf hfr hN.nd hkf (hN.glob hg) (nrel_own hN eq rfl) (L1 b) fun e=>ss_list (fun a=>ih _ _ _ d _ env fs ns a (Q.mark e) hN hkf hf hfr) (h0 :: hr)
    | _=>exact ss_bad
end
end Mine
end
section
open PySem PySem.W PySem.Calls PyProof.Rows
set_option backward.match.sparseCases false
namespace Mine
noncomputable def cellsAt (k:Nat):Names→List Nat
  | []=>[]
  | (_,kd) :: r=>if kd == .cell then k :: cellsAt (k+1) r else cellsAt (k+1) r
noncomputable def cellAddrs (m:Nat):Names→List Addr
  | []=>[]
  | (_,kd) :: r=>if kd == .cell then m :: cellAddrs (m+1) r else cellAddrs m r
noncomputable def parSlots (ns:Names):List Str→Option (List Nat)
  | []=>some []
  | x :: r=>(slotOf x ns 0).bind fun p=>if isOwn p.2=true then (parSlots ns r).map (p.1 :: ·) else none
theorem cells_other {x:Str}:∀ (ns:Names) (m:Nat) (acc:List (Str × Addr)),x ∉ ns.map (·.1)→(cellsFrom m ns acc).lookup x=acc.lookup x
  | [],m,acc,_=>rfl
  | (y,kd) :: r,m,acc,h=>by
    rw [List.map_cons,List.mem_cons,not_or] at h
    unfold cellsFrom
    split
    · rw [cells_other r (m+1) _ h.2,List.lookup_cons]
      have:(x == y)=false:=by rw [beq_eq_false_iff_ne]; exact h.1
      rw [this]
    · exact cells_other r m acc h.2
theorem cells_at {x:Str}:∀ (ns:Names) (k m i:Nat) (acc:List (Str × Addr)),(ns.map (·.1)).Nodup→ns[i]?=some (x,.cell) →
    ∃ j,(cellsAt k ns).findIdx? (· == k+i)=some j∧(cellsFrom m ns acc).lookup x=some (m+j)∧(cellAddrs m ns)[j]?=some (m+j)
  | [],k,m,i,acc,_,e=>by simp at e
  | (y,kd) :: r,k,m,i,acc,nd,e=>by
    rw [List.map_cons,List.nodup_cons] at nd
    unfold cellsAt cellsFrom cellAddrs
    cases i with
    | zero =>
      simp at e
      obtain ⟨rfl,rfl⟩:=e
      refine ⟨0,?_,?_,?_⟩
      · rw [if_pos (by rfl),List.findIdx?_cons]; simp
      · rw [if_pos (by rfl),cells_other r _ _ nd.1,List.lookup_cons]; simp
      · rw [if_pos (by rfl)]; simp
    | succ i =>
      have e:r[i]?=some (x,.cell):=by simpa using e
      by_cases hk:(kd == NameKind.cell)=true
      · rw [if_pos hk,if_pos hk,if_pos hk]
        obtain ⟨j,h1,h2,h3⟩:=cells_at r (k+1) (m+1) i ((y,m) :: acc) nd.2 e
        refine ⟨j+1,?_,?_,?_⟩
        · rw [List.findIdx?_cons]
          have:(k == k+(i+1))=false:=by simp
          rw [this]
          have e2:k+(i+1)=k+1+i:=by omega
          rw [e2,h1]
          simp
        · rw [h2]; congr 1; omega
        · rw [List.getElem?_cons_succ,h3]; congr 1; omega
      · rw [if_neg hk,if_neg hk,if_neg hk]
        obtain ⟨j,h1,h2,h3⟩:=cells_at r (k+1) m i acc nd.2 e
        refine ⟨j,?_,h2,h3⟩
        have e2:k+(i+1)=k+1+i:=by omega
        rw [e2]; exact h1
theorem cellsAt_mem:∀ (ns:Names) (k q:Nat),q ∈ cellsAt k ns→∃ i x,q=k+i∧ns[i]?=some (x,.cell)
  | [],k,q,m=>by cases m
  | (y,kd) :: r,k,q,m=>by
    unfold cellsAt at m
    split at m
    · rename_i hk
      rcases List.mem_cons.mp m with rfl | m
      · exact ⟨0,y,rfl,by rw [eq_of_beq hk]; rfl⟩
      · obtain ⟨i,x,e1,e2⟩:=cellsAt_mem r (k+1) q m
        exact ⟨i+1,x,by omega,by simpa using e2⟩
    · obtain ⟨i,x,e1,e2⟩:=cellsAt_mem r (k+1) q m
      exact ⟨i+1,x,by omega,by simpa using e2⟩
theorem cellAddrs_length:∀ (ns:Names) (k m:Nat),(cellAddrs m ns).length=(cellsAt k ns).length
  | [],_,_=>rfl
  | (_,kd) :: r,k,m=>by
    unfold cellAddrs cellsAt
    split
    · simp [cellAddrs_length r (k+1) (m+1)]
    · exact cellAddrs_length r (k+1) m
section
variable {C:Cx} {N:Nm} {T:Tab} {F:Fns} {env:Env} {fs:List FrD} {f:FrD} {W W':Wd} {s s':Shared} {A:Around} {l:List LV} {os:List AO} {h:Heap} {K:Nat}
theorem HR.cells:∀ (ns:Names) {h:Heap} {W:Wd} {os:List AO} (k:Nat),HR C fs W os h→HR C fs ⟨W.φ++cellAddrs h.objs.size ns,W.kp⟩ (os++(cellsAt k ns).map fun _=>.cell none) (pushCells h ns)
  | [],h,W,os,k,H=>by simpa [cellAddrs,cellsAt,pushCells] using H
  | (y,kd) :: r,h,W,os,k,H=>by
    unfold cellAddrs cellsAt pushCells
    split
    · have H1:=H.new (ao:=.cell none) (o:={ cls:=.type "cell",data:=.cell none }) (.cell _ _ none (fun v' e=>nomatch e) rfl)
      have:=HR.cells r (k+1) H1
      rw [Heap.size_push,List.append_assoc,List.append_assoc] at this
      exact this
    · exact HR.cells r (k+1) H
theorem callFrame (H:HR C fs W os h) (hl:env.locals=h.objs.size) (hk:env.scope.kind=.function) (hg:env.globals=mainGlobals) (hb:env.builtins=builtinsNs) (hc:env.cells=cellsFrom (h.objs.size+1) env.scope.names [])
    (nd:(env.scope.names.map (·.1)).Nodup):HR C (⟨env,freshLoc env.scope.names.length (cellsAt 0 env.scope.names) os.length⟩ :: fs) ⟨W.φ++cellAddrs (h.objs.size+1) env.scope.names,W.kp⟩ (os++(cellsAt 0 env.scope.names).map fun _=>.cell none)
      (pushCells (h.push { cls:=.type "frame",data:=.dict #[] }) env.scope.names):=by
  have H1:HR C (⟨env,[]⟩ :: fs) W os (h.push { cls:=.type "frame",data:=.dict #[] }):=by
    refine H.pushF (f:=⟨env,[]⟩) ?_ (fun b o e=>Heap.get?_push_of_some _ e) ⟨hk,hg,hb,⟨fun _=>none,?_,fun i x k v e1 e2=>by simp at e2⟩,fun i x e1 v e2=>by simp at e2⟩
    · show Hid C fs W env.locals
      rw [hl]; exact Hid.fresh H (Nat.le_refl _)
    · show Heap.Ns _ env.locals _
      rw [hl]; exact Heap.Ns.new h _
  have H2:=HR.cells env.scope.names 0 H1
  rw [Heap.size_push] at H2
  have hφ:W.φ.length=os.length:=H.len
  refine { base:=H2.base,kept:=H2.kept,len:=H2.len,objs:=H2.objs,frames:=fun g m=>?_,nodup:=H2.nodup,apart:=H2.apart }
  rcases List.mem_cons.mp m with rfl | m
  · have r:=H2.frames ⟨env,[]⟩ List.mem_cons_self
    obtain ⟨mm,e1,_⟩:=r.ns
    have fl:∀ (i:Nat) (v:LV),(freshLoc env.scope.names.length (cellsAt 0 env.scope.names) os.length)[i]?=some v→i < env.scope.names.length∧v=(match (cellsAt 0 env.scope.names).findIdx? (· == i) with
        | some j=>.cel (os.length+j)
        | none=>.un):=by
      intro i v e
      unfold freshLoc at e
      rw [List.getElem?_map,Option.map_eq_some_iff] at e
      obtain ⟨q,e1,e2⟩:=e
      obtain ⟨p1,p2⟩:=List.getElem?_eq_some_iff.mp e1
      simp at p1 p2
      subst p2
      exact ⟨p1,e2.symm⟩
    refine ⟨r.kind,r.glob,r.bns,⟨mm,e1,fun i x k v q1 q2=>?_⟩,fun i x q1 v q2=>?_⟩
    · obtain ⟨_,rfl⟩:=fl i v q2
      cases hf:(cellsAt 0 env.scope.names).findIdx? (· == i) with
      | none=>trivial
      | some j =>
        have hm:i ∈ cellsAt 0 env.scope.names:=by
          obtain ⟨hj,hp,_⟩:=List.findIdx?_eq_some_iff_getElem.mp hf
          have:=eq_of_beq hp
          rw [← this]; exact List.getElem_mem hj
        obtain ⟨i',x',e3,e4⟩:=cellsAt_mem _ _ _ hm
        rw [Nat.zero_add] at e3
        subst e3
        have q1:env.scope.names[i]?=some (x,k):=q1
        rw [e4] at q1
        cases q1
        obtain ⟨j',h1,h2,h3⟩:=cells_at (x:=x) env.scope.names 0 (h.objs.size+1) i [] nd e4
        rw [Nat.zero_add,hf] at h1
        cases h1
        refine ⟨.inl rfl,h.objs.size+1+j,?_,?_⟩
        · show env.cells.lookup x=_
          rw [hc]; exact h2
        · show (W.φ++cellAddrs (h.objs.size+1) env.scope.names)[os.length+j]?=_
          rw [List.getElem?_append_right (by rw [hφ]; omega),hφ]
          have:os.length+j - os.length=j:=by omega
          rw [this]; exact h3
    · obtain ⟨_,rfl⟩:=fl i v q2
      obtain ⟨j',h1,h2,h3⟩:=cells_at (x:=x) env.scope.names 0 0 i [] nd q1
      rw [Nat.zero_add] at h1
      rw [h1]
      exact ⟨_,rfl⟩
  · exact H2.frames g (List.mem_cons_of_mem _ m)
theorem sat_params (nd:(env.scope.names.map (·.1)).Nodup) {E:Value→Shared→Prop} {g:Str × Value→PUnit→Sem (ForInStep PUnit)} (hg:∀ n v u,g (n,v) u=(do storeName env n v; pure (.yield ⟨⟩))) :
    ∀ {pn:List Str} {is:List Nat} {vs:List V} {xs:List Value} {l:List LV} {os:List AO} {s:Shared},parSlots env.scope.names pn=some is→VRs W vs xs→HR C (⟨env,l⟩ :: fs) W os s.heap→storeAll is vs l os ≠ .fail →
    wpAny (model C.prog C.w) A (forIn (pn.zip xs) ⟨⟩ g) (fun _ s'=>∃ l2 os2,storeAll is vs l os=.next l2 os2∧HR C (⟨env,l2⟩ :: fs) W os2 s'.heap∧Sm s s') E s:=by
  intro pn
  induction pn with
  | nil =>
    intro is vs xs l os s e hv H hf
    cases e
    cases hv with
    | nil=>exact wpAny_pure ⟨l,os,rfl,H,.refl _⟩
    | cons _ _=>exact absurd rfl hf
  | cons x pn ih =>
    intro is vs xs l os s e hv H hf
    obtain ⟨q,e1,e⟩:=bindSome e
    obtain ⟨hk,e⟩:=iteO e
    obtain ⟨is',e2,rfl⟩:=Option.map_eq_some_iff.mp e
    cases hv with
    | nil=>exact absurd rfl hf
    | @cons v y vs ys q qs =>
      rw [List.zip_cons_cons,List.forIn_cons,hg,bind_assoc]
      refine wpAny_bind (wpAny_mono (sat_store (f:=⟨env,l⟩) H nd e1 hk q (seq_ne (r:=setLoc l os _ v) rfl hf)) ?_ fun _ _ x=>x)
      rintro _ s1 ⟨l1,os1,r1,H1,sm1⟩
      have r2:=seq_is (r:=setLoc l os _ v) (f:=storeAll is' vs) rfl r1
      rw [pure_bind]
      refine wpAny_mono (ih e2 qs H1 (fun z=>hf (r2.symm.trans z))) ?_ fun _ _ x=>x
      rintro _ s2 ⟨l2,os2,r3,H2,sm2⟩
      exact ⟨l2,os2,r2.symm.trans r3,H2,sm1.trans sm2⟩
inductive LeaveOk (C:Cx) (fs:List FrD) (W:Wd) (h:Heap) (x:Value) (r:R V):Prop
  | mk (v:V) (os:List AO) (W2:Wd) (e:r=.ok v os) (le:W.le W2) (H:HR C fs W2 os h) (hv:VR W2 v x):LeaveOk C fs W h x r
theorem leave_list {n i:Nat} {vs:List V} {a:Addr} (HC:HR C fs (W'.cut n) (os.take n) h) (H:HR C fs W' os h) (hle:n ≤ os.length) (ea:W'.φ[i]?=some a) (hi:¬ i < n) (ei:os[i]?=some (.list vs)) (hlv:lows n vs=true) (le:W.le (W'.cut n)) :
    LeaveOk C fs W h (.ref a) (.ok (.obj n) (os.take n++[.list vs])):=by
  obtain ⟨ob,g,r⟩:=H.objs _ _ _ ei ea
  have ra:OR C ⟨(W'.cut n).φ++[a],(W'.cut n).kp⟩ (.list vs) ob:=OR.mono (leN _ a) (r.cut hlv)
  have ma:a ∈ fs.map (·.env.locals)++W'.φ:=List.mem_append_right _ (List.mem_of_getElem? ea)
  have nin:a ∉ fs.map (·.env.locals)++(W'.cut n).φ:=by
    have e:fs.map (·.env.locals)++W'.φ=(fs.map (·.env.locals)++W'.φ.take n)++W'.φ.drop n:=by rw [List.append_assoc,List.take_append_drop]
    have nd:=H.nodup
    rw [e] at nd
    exact fun m=>(List.nodup_append.mp nd).2.2 a m a (List.mem_of_getElem? (i:=i - n) (by rw [List.getElem?_drop,Nat.add_sub_cancel' (Nat.le_of_not_lt hi)]; exact ea)) rfl
  have hl:(W'.cut n).φ.length=n:=by
    show (W'.φ.take n).length=_
    rw [List.length_take,H.len,Nat.min_eq_left hle]
  refine ⟨_,_,_,rfl,le.trans (leN _ a),HC.adopt g ra nin (H.apart a ma).1 (H.apart a ma).2,.obj _ _ ?_⟩
  show ((W'.cut n).φ++[a])[n]?=some a
  rw [List.getElem?_append_right (Nat.le_of_eq hl),hl,Nat.sub_self]
  rfl
theorem iteL {α:Type} {P:α→Prop} {c:Prop} [Decidable c] {a b:α} (h1:c→P a) (h2:¬ c→P b):P (if c then a else b):=by
  by_cases h:c
  · rw [if_pos h]; exact h1 h
  · rw [if_neg h]; exact h2 h
theorem sat_leave {h0 h':Heap} {os0:List AO} {v:V} {x:Value} (H0:HR C fs W os0 h0) (le:W.le W') (H:HR C fs W' os h') (hv:VR W' v x):LeaveOk C fs W h' x (leave os0.length v os):=by
  have hn:W.φ.length=os0.length:=H0.len
  have hle:os0.length ≤ os.length:=by
    rw [← hn,← H.len]; exact le.φ.length_le
  have keep:LeaveOk C fs W h' x (.ok v os):=⟨v,os,W',rfl,le,H,hv⟩
  unfold leave
  refine iteL (P:=LeaveOk C fs W h' x) (fun _=>keep) fun _=>iteL (P:=LeaveOk C fs W h' x) (fun lo=>?_) fun _=>keep
  have HC:HR C fs (W'.cut os0.length) (os.take os0.length) h':=H.cut hle lo rfl fun f m=>FR.cutSame (H0.frames f m) hn (H.frames f m)
  have lc:W.le (W'.cut os0.length):=le_cut le hn
  have plain:v.low os0.length=true→LeaveOk C fs W h' x (.ok v (os.take os0.length)):=fun lv=>⟨v,_,_,rfl,lc,HC,hv.cut lv⟩
  have other:LeaveOk C fs W h' x (if v.low os0.length=true then .ok v (os.take os0.length) else .ok v os):=iteL (P:=LeaveOk C fs W h' x) plain fun _=>keep
  clear lo
  generalize os0.length=n at *
  cases hv with
  | obj i a ea =>
    refine iteL (P:=LeaveOk C fs W h' (.ref a)) (fun hi=>plain (by unfold V.low; exact decide_eq_true hi)) fun hi=>?_
    cases ei:os[i]? with
    | none=>exact keep
    | some ao=>cases ao with
      | list vs=>exact iteL (P:=LeaveOk C fs W h' (.ref a)) (fun hlv=>leave_list HC H hle ea hi ei hlv lc) fun _=>keep
      | _=>exact keep
  | _=>exact other
theorem BaseOk.cut {B:Heap} {n:Nat} (b:BaseOk C W os B) (lo:aoLows n (os.take n)=true):BaseOk C (W.cut n) (os.take n) B where
  b:=b.b
  k:=b.k
  o i o a e1 e2:=by
    have hi:i < n:=by have:=(List.getElem?_eq_some_iff.mp e1).1; simp at this; omega
    have hlo:=aoLows_get lo e1
    rw [List.getElem?_take,if_pos hi] at e1
    have e2:W.φ[i]?=some a:=by
      have e2:(W.φ.take n)[i]?=some a:=e2
      rwa [List.getElem?_take,if_pos hi] at e2
    obtain ⟨ob,x,y⟩:=b.o i o a e1 e2
    exact ⟨ob,x,y.cut hlo⟩
theorem sat_leaveX {h0 h':Heap} {os0:List AO} {m:List Nat} {e:Addr} (H0:HR C fs W os0 h0) (le:W.le W') (X:XR C fs W' os m e h'):∃ W'',W.le W''∧XR C fs W'' (leaveX os0.length os) m e h':=by
  have hn:W.φ.length=os0.length:=H0.len
  have hle:os0.length ≤ os.length:=by
    rw [← hn,← X.hr.len]; exact le.φ.length_le
  unfold leaveX
  split
  · exact ⟨W',le,X⟩
  · split
    · rename_i lo
      obtain ⟨B,t,tk,a,b,c⟩:=X.base
      exact ⟨W'.cut os0.length,le_cut le hn,.of (X.hr.cut hle lo rfl fun f m=>FR.cutSame (H0.frames f m) hn (X.hr.frames f m)) a b (c.cut lo)⟩
    · exact ⟨W',le,X⟩
end
end Mine
end
section
open PySem PySem.W PySem.Calls PyProof.Rows
set_option backward.match.sparseCases false
set_option tactic.hygienic false
namespace Mine
structure FnIs (C:Cx) (N:Nm) (n:Nat) (fn:Fn) (fa:Addr) (fd:FuncData) (pn:List Str) (body:List Stmt):Prop where
  obj:∃ oc od osl,C.K.lookup fa=some ⟨oc,od,.func fd,osl⟩
  code:codeIn C.K fd.code fd.qualname=true
  bd:fd.body=.stmts body
  tr:fn.body=cSs N n fd.scope.names body
  co:fd.scope.isCoroutine=false
  gen:fd.scope.isGenerator=false
  kind:fd.scope.kind=.function
  clo:fd.closure=[]
  glob:fd.globals=mainGlobals
  bns:fd.builtins=builtinsNs
  nd:noDup (fd.scope.names.map (·.1))=true
  np:fn.np=fd.scope.names.length
  cells:fn.cells=cellsAt 0 fd.scope.names
  pars:parSlots fd.scope.names pn=some fn.params
structure FnsIs (C:Cx) (N:Nm) (n:Nat) (T:Tab) (F:Fns):Prop where
  nl:C.h₀.NoLimit
  fn:∀ g fn fa fd,T.fns g=some fn→F.fv g=some fa→F.fd g=some fd→∃ body,FnIs C N n fn fa fd (F.pn g) body
section
variable {C:Cx} {N:Nm} {T:Tab} {F:Fns} {K n:Nat}
set_option tactic.hygienic true in
theorem call_next {env:Env} {fs:List FrD} {W W1:Wd} {s s2 s3:Shared} {os:List AO} {r:RS} {fl:Flow} (H:HR C fs W os s.heap) (le1:W.le W1) (sm2:Sm s s2) (hr:endCall os.length r ≠ .fail) (hn:SN C env fs W1 s2 r fl s3) :
    (fl=.next∧PR C VR fs W s (endCall os.length r) .none s3) ∨ ∃ v,fl=.ret v∧PR C VR fs W s (endCall os.length r) v s3:=by
  cases r with
  | next l3 os3=>cases fl with
    | next =>
      obtain ⟨W3,le3,H3,sm3⟩:=hn
      obtain ⟨v',os',W'',q1,q2,q3,q4⟩:=sat_leave H (le1.trans le3) H3.popF .none
      exact .inl ⟨rfl,v',os',W'',q1,q2,q3,q4,sm2.trans sm3⟩
    | _=>exact hn.elim
  | ret v os3=>cases fl with
    | ret y =>
      obtain ⟨W3,l3,le3,H3,hv,sm3⟩:=hn
      obtain ⟨v',os',W'',q1,q2,q3,q4⟩:=sat_leave H (le1.trans le3) H3.popF hv
      exact .inr ⟨y,rfl,v',os',W'',q1,q2,q3,q4,sm2.trans sm3⟩
    | _=>exact hn.elim
  | exc gg m l3 os3=>exact hn.elim
  | _=>exact absurd rfl hr
structure EnvOk (fd:FuncData) (L:Addr) (env:Env):Prop where
  loc:env.locals=L
  sc:env.scope=fd.scope
  gl:env.globals=mainGlobals
  bn:env.builtins=builtinsNs
  ce:env.cells=cellsFrom (L+1) env.scope.names []
  fr:env.frame=some env.locals
theorem call_func (X:CxOk C) (hT:TabOk C T F) (hG:GlobOk C N T F) (nm:C.nm=N.an) (newS:∀ x,posOf x N.cn 0=some 1→∃ Ca,C.mg x=some (.ref Ca)∧NewOk C T F Ca 1 [] [] 1)
    (newL:∀ x,posOf x N.cn 0=some 0→∃ Ca,C.mg x=some (.ref Ca)∧NewOk C T F Ca 0 [2,3] ["posix","punctuation_chars"] 1) {d:Nat} {A:Around} {env:Env} {ns:Names} {fs:List FrD} {W W1:Wd} {os os2:List AO} {s s2:Shared} {l2:List LV} {body:List Stmt}
    (hA:AOk A (d+1)) (hh:A.handled=none) (hfr:A.frames=some (reals fs)) (H:HR C fs W os s.heap) (ih:FnSat C T (callF T K d) F d) (hN:Nrel ns env.scope.names) (hk:env.scope.kind=.function) (v6:env.frame=some env.locals)
    (H2:HR C (⟨env,l2⟩ :: fs) W1 os2 s2.heap) (le1:W.le W1) (sm2:Sm s s2) (hf:endCall os.length (Mine.execs T (callF T K d) K (stsMap (cS N n ns) body) l2 os2) ≠ .fail) :
    codeAny (model C.prog C.w) A (.func body env) (RX C fs W s (endCall os.length (Mine.execs T (callF T K d) K (stsMap (cS N n ns) body) l2 os2))) s2:=by
  refine codeAny_func ?_
  have hfr':(A.deeper env).frames=some (env :: reals fs):=by
    show A.frames.map (env :: ·)=_
    rw [hfr]; rfl
  have Q:Ctx C N T F (callF T K d) K (A.deeper env) d:=by
    refine ⟨X,hT,hG,ih,⟨?_,?_⟩,.inl hh,nm,newS,newL⟩
    · show A.depth+1+3 * d ≤ 799
      have:=hA.depth; omega
    · show A.units+3+40 * d ≤ 8990
      have:=hA.units; omega
  have LB:=ss_list (fun a=>mainS n T (callF T K d) K d (A.deeper env) env fs ns a Q hN hk v6 hfr') body
  generalize Mine.execs T (callF T K d) K (stsMap (cS N n ns) body)=g at hf LB ⊢
  refine wpAny_mono (LB l2 W1 os2 s2 H2 (fun q=>hf (by rw [q]; rfl))) (fun fl s3 hn=>?_) fun x s3 hx=>?_
  · generalize g l2 os2=r at hn hf ⊢
    rcases call_next H le1 sm2 hf hn with ⟨rfl,h⟩ | ⟨v,rfl,h⟩
    · exact h
    · exact h
  · generalize g l2 os2=r at hx hf ⊢
    cases r with
    | exc gg m l3 os3 =>
      obtain ⟨W3,a,rfl,le3,hex,sm3⟩:=hx
      have hg:(gg == 0)=false:=by
        cases hq:gg == 0 with
        | false=>rfl
        | true=>exact absurd (if_pos hq) hf
      have eR:endCall os.length (.exc gg m l3 os3)=.exc m (leaveX os.length os3):=if_neg (by rw [hg]; exact Bool.false_ne_true)
      rw [eR]
      have fin:∀ h',XR C fs W3 os3 m a h'→PX C fs W s (R.exc m (leaveX os.length os3):R V) (.ref a) { s3 with heap:=h' }:=by
        intro h' Xr
        obtain ⟨W'',q1,q2⟩:=sat_leaveX H (le1.trans le3) Xr
        exact ⟨m,_,W'',a,rfl,rfl,q1,q2,sm2.trans sm3⟩
      match gg,hg,hex with
      | 1,_,hex =>
        have X1:XR C (⟨env,l3⟩ :: fs) W3 os3 m a s3.heap:=hex
        obtain ⟨B,t,tk,fly,tup,bo⟩:=X1.base
        rw [reals_top v6] at fly
        exact wpAny_leaves_onW hfr' v6 fly fun h' fly' up=>fin h' (.of (X1.hr.slots bo fly'.1 up).popF fly' (tup.of_slots up) bo)
      | gg+2,_,hex =>
        have X1:XH C (⟨env,l3⟩ :: fs) W3 os3 m a env.locals s3.heap:=hex
        obtain ⟨B,t,tk,held,tup,bo⟩:=X1.fly
        rw [reals_top v6] at held
        unfold leaving
        refine wpAny_bind (wpAny_noteFrame_againW v6 held.2.2.2 ?_)
        refine wpAny_landsW held fun h' fly' up=>?_
        obtain ⟨k1,k2,⟨_,_,k3⟩,k4⟩:=fly'
        exact fin h' (.of (X1.hr.slots bo k1 up).popF ⟨k1,k2,k3,k4⟩ (tup.of_slots up) bo)
    | _=>exact hx.elim
theorem call_body (X:CxOk C) (hT:TabOk C T F) (hG:GlobOk C N T F) (nm:C.nm=N.an) (newS:∀ x,posOf x N.cn 0=some 1→∃ Ca,C.mg x=some (.ref Ca)∧NewOk C T F Ca 1 [] [] 1)
    (newL:∀ x,posOf x N.cn 0=some 0→∃ Ca,C.mg x=some (.ref Ca)∧NewOk C T F Ca 0 [2,3] ["posix","punctuation_chars"] 1) (hI:FnsIs C N n T F) {d g:Nat} {fn:Fn} {fa:Addr} {fd:FuncData} {A:Around} {env:Env} {fs:List FrD} {W:Wd} {os:List AO} {s:Shared} {ws:List V} {ys:List Value} {body:List Stmt}
    (hA:AOk A (d+1)) (hh:A.handled=none) (hfr:A.frames=some (reals fs)) (H:HR C fs W os s.heap) (I:FnIs C N n fn fa fd (F.pn g) body) (hys:VRs W ws ys) (ih:FnSat C T (callF T K d) F d) (v:EnvOk fd s.heap.objs.size env) {G:Str × Value→PUnit→Sem (ForInStep PUnit)} (hg:∀ n v u,G (n,v) u=(do storeName env n v; pure (.yield ⟨⟩))) {Rr:R V}
    (hR:((storeAll fn.params ws (freshLoc fn.np fn.cells os.length) (os++fn.cells.map fun _=>.cell none)).run fun l s'=>endCall os.length (Mine.execs T (callF T K d) K fn.body l s'))=Rr) (hf:Rr ≠ .fail) {E:Value→Shared→Prop} :
    wpAny (model C.prog C.w) A.in1 (do let _ ← forIn ((F.pn g).zip ys) PUnit.unit G; pure env) (fun env s₂=>s₂.heap.NoLimit∧codeAny (model C.prog C.w) A (.func body env) (RX C fs W s Rr) s₂) E { s with heap:=pushCells (s.heap.push { cls:=.type "frame",data:=.dict #[] }) fd.scope.names }:=by
  have nd:(env.scope.names.map (·.1)).Nodup:=by rw [v.sc]; exact noDup_spec I.nd
  have hk:env.scope.kind=.function:=by rw [v.sc]; exact I.kind
  have H1:=callFrame H v.loc hk v.gl v.bn v.ce nd
  rw [show env.scope.names.length=fn.np by rw [v.sc]; exact I.np.symm,show cellsAt 0 env.scope.names=fn.cells by rw [v.sc]; exact I.cells.symm] at H1
  have epar:parSlots env.scope.names (F.pn g)=some fn.params:=by rw [v.sc]; exact I.pars
  have le1:W.le ⟨W.φ++cellAddrs (s.heap.objs.size+1) env.scope.names,W.kp⟩:=⟨List.prefix_append _ _,fun _ m=>m⟩
  generalize (⟨W.φ++cellAddrs (s.heap.objs.size+1) env.scope.names,W.kp⟩:Wd)=W1 at H1 le1
  rw [v.sc] at H1
  refine wpAny_bind (wpAny_mono (sat_params (env:=env) (W:=W1) nd hg epar (hys.mono le1) (s:={ s with heap:=pushCells (s.heap.push { cls:=.type "frame",data:=.dict #[] }) fd.scope.names }) H1 (fun q=>hf (by rw [← hR,q]; rfl))) (fun _ s2 h2=>?_) fun _ _ x=>x)
  obtain ⟨l2,os2,r2,H2,sm2⟩:=h2
  rw [r2] at hR
  have hR:endCall os.length (Mine.execs T (callF T K d) K fn.body l2 os2)=Rr:=hR
  rw [show fn.body=stsMap (cS N n fd.scope.names) body from I.tr] at hR
  refine wpAny_pure ⟨hI.nl.keeps H2.base,?_⟩
  rw [← hR] at hf ⊢
  exact call_func X hT hG nm newS newL hA hh hfr H ih (by rw [v.sc]; exact .self (noDup_spec I.nd)) hk v.fr H2 le1 ⟨sm2.1,sm2.2.1,sm2.2.2⟩ hf
theorem mainF (X:CxOk C) (hT:TabOk C T F) (hG:GlobOk C N T F) (nm:C.nm=N.an) (newS:∀ x,posOf x N.cn 0=some 1→∃ Ca,C.mg x=some (.ref Ca)∧NewOk C T F Ca 1 [] [] 1)
    (newL:∀ x,posOf x N.cn 0=some 0→∃ Ca,C.mg x=some (.ref Ca)∧NewOk C T F Ca 0 [2,3] ["posix","punctuation_chars"] 1) (hI:FnsIs C N n T F) (hd:T.hd=false):∀ d,FnSat C T (callF T K d) F d:=by
  intro d
  induction d with
  | zero=>intro g fn fa fd _ _ _ A fs W os s vs args _ _ _ _ _ hf; exact absurd rfl hf
  | succ d ih =>
    intro g fn fa fd e1 e2 e3 A fs W os s vs args hA hh hfr H hb hf
    have hh:A.handled=none:=by
      rcases hh with h | h
      · exact h
      · rw [hd] at h; cases h
    obtain ⟨body,I⟩:=hI.fn g fn fa fd e1 e2 e3
    have ecall:callF T K (d+1) g vs os=callBody T K (callF T K d) fn vs os:=R.opt_eq e1
    rw [ecall] at hf ⊢
    obtain ⟨ws,ew,hf'⟩:=R.opt_ne hf
    have e4:callBody T K (callF T K d) fn vs os=(storeAll fn.params ws (freshLoc fn.np fn.cells os.length) (os++fn.cells.map fun _=>.cell none)).run fun l s'=>endCall os.length (Mine.execs T (callF T K d) K fn.body l s'):=R.opt_eq ew
    rw [e4] at hf ⊢
    clear hf' ecall e4
    obtain ⟨ys,hys,hbind⟩:=hb ws ew
    obtain ⟨oc,od,osl,ho⟩:=I.obj
    have ho:s.heap.get? fa=some ⟨oc,od,.func fd,osl⟩:=(H.kin X) _ _ ho
    have nl:s.heap.NoLimit:=hI.nl.keeps H.base
    have hcd:=codeRec_of (H.kin X) I.code
    refine codeAny_call_function (by have:=hA.depth; show A.depth < 1000; omega) ho rfl I.co I.gen I.bd hcd ?_
    refine hbind _ _ _ _ ?_
    rw [I.clo]
    simp only [newFunctionEnv,Option.isSome_none,Bool.false_eq_true,if_false]
    refine wpAny_bind (wpAny_alloc ?_)
    refine wpAny_bind (wpAny_layCells _ (fun name kind cells=>by cases hkc:kind == NameKind.cell<;>simp [hkc]) _ _ _ _ ?_)
    rw [show ({ s with heap:=s.heap.push { cls:=.type "frame",data:=.dict #[] } }:Shared).heap.objs.size=s.heap.objs.size+1 from Heap.size_push ..]
    exact call_body (env:=newEnv fd.scope s.heap.objs.size fd.globals (cellsFrom (s.heap.objs.size+1) fd.scope.names []) (fd.qualname++".<locals>.") (some fa) fd.code none fd.builtins) X hT hG nm newS newL hI hA hh hfr H I hys ih ⟨rfl,rfl,I.glob,I.bns,rfl,rfl⟩ (fun _ _ _=>rfl) rfl hf
end
noncomputable def dataFn:Data→Option FuncData
  | .func fd=>some fd
  | _=>none
noncomputable def dataSeq:Data→Option (Array Value)
  | .seq xs _=>some xs
  | _=>none
noncomputable def bodySts:FuncBody→Option (List Stmt)
  | .stmts b=>some b
  | _=>none
noncomputable def fdIn (K:Frag) (a:Addr):Option FuncData:=(K.lookup a).bind fun o=>dataFn o.data
theorem dataFn_of {d:Data} {fd:FuncData} (e:dataFn d=some fd):d=.func fd:=by
  cases d<;>first | exact noSome e | (cases e; rfl)
theorem dataSeq_of {d:Data} {xs:Array Value} (e:dataSeq d=some xs):∃ n,d=.seq xs n:=by
  cases d<;>first | exact noSome e | (cases e; exact ⟨_,rfl⟩)
theorem bodySts_of {d:FuncBody} {b:List Stmt} (e:bodySts d=some b):d=.stmts b:=by
  cases d<;>first | exact noSome e | (cases e; rfl)
theorem fdIn_spec {K:Frag} {a:Addr} {fd:FuncData} (e:fdIn K a=some fd):∃ oc od osl,K.lookup a=some ⟨oc,od,.func fd,osl⟩:=by
  obtain ⟨⟨oc,od,dt,osl⟩,e1,e2⟩:=bindSome e
  cases dataFn_of e2
  exact ⟨oc,od,osl,e1⟩
noncomputable def valIn:Value→Option V
  | .none=>some .none
  | .bool b=>some (.bool b)
  | .int i _=>some (.int i)
  | .str x _=>if x.cps.toList.length ≤ 1000 then some (.str x.cps.toList) else none
  | _=>none
noncomputable def valsIn:List Value→Option (List V)
  | []=>some []
  | v :: r=>(valIn v).bind fun a=>(valsIn r).bind fun l=>some (a :: l)
noncomputable def dfltRaw (K:Frag):Value→Option (List Value)
  | .none=>some []
  | .ref t=>(K.lookup t).bind fun o=>(dataSeq o.data).map (·.toList)
  | _=>none
noncomputable def pnOf (fd:FuncData):List Str:=fd.params.posonlyargs.map (·.arg)++fd.params.args.map (·.arg)
noncomputable def plainPars (p:Arguments):Bool:=p.vararg.isNone&&(p.kwonlyargs.isEmpty&&p.kwarg.isNone)
noncomputable def isFun:ScopeKind→Bool
  | .function=>true
  | _=>false
theorem isFun_of {k:ScopeKind} (h:isFun k=true):k=.function:=by cases k<;>first | rfl | exact noTrue h
noncomputable def plainFd (K:Frag) (fd:FuncData):Bool :=
  !fd.scope.isCoroutine&&(!fd.scope.isGenerator&&(isFun fd.scope.kind&&(fd.closure.isEmpty&&(plainPars fd.params&&(Nat.beq fd.globals mainGlobals&&(Nat.beq fd.builtins builtinsNs&&(codeIn K fd.code fd.qualname&&(noDup (fd.scope.names.map (·.1))&&noDup (pnOf fd)))))))))
noncomputable def fnIn (K:Frag) (N:Nm) (n:Nat) (a:Addr):Option Fn:=(fdIn K a).bind fun fd=>(bodySts fd.body).bind fun body=>(parSlots fd.scope.names (pnOf fd)).bind fun ps=>(dfltRaw K fd.defaults).bind fun ds=>(valsIn ds).bind fun vs =>
  if (plainFd K fd&&Nat.ble vs.length ps.length)=true then some ⟨fd.scope.names.length,cellsAt 0 fd.scope.names,ps,vs,cSs N n fd.scope.names body⟩ else none
end Mine
end
section
open PySem PySem.W PySem.Calls PyProof.Rows
set_option tactic.hygienic false
namespace Mine
theorem plainPars_spec {p:Arguments} (e:plainPars p=true):p.vararg=none∧p.kwonlyargs=[]∧p.kwarg=none:=by
  obtain ⟨h1,h⟩:=and_of e
  obtain ⟨h2,h3⟩:=and_of h
  exact ⟨Option.isNone_iff_eq_none.mp h1,nil_of h2,Option.isNone_iff_eq_none.mp h3⟩
theorem lookup_zip {α:Type} (pn:List Str):∀ (ys:List α),pn.Nodup→∀ (i:Nat) (x:Str),pn[i]?=some x→(pn.zip ys).lookup x=ys[i]?:=by
  induction pn with
  | nil=>exact fun _ _ _ _ e=>noSome e
  | cons p pn ih =>
    intro ys h i x e
    cases ys with
    | nil=>rfl
    | cons y ys =>
      rw [List.zip_cons_cons,List.lookup_cons]
      cases i with
      | zero =>
        rw [← Option.some.inj e,beq_self_eq_true]
        rfl
      | succ i =>
        have h:=List.nodup_cons.mp h
        have e:pn[i]?=some x:=e
        rw [show (x == p)=false from beq_eq_false_iff_ne.mpr fun q=>h.1 (q ▸ List.mem_of_getElem? e)]
        exact ih ys h.2 i x e
theorem fm_congr {α β:Type} {f g:α→Option β} {l:List α} (h:∀ x ∈ l,f x=g x):l.filterMap f=l.filterMap g:=by
  induction l with
  | nil=>rfl
  | cons a l ih=>rw [List.filterMap_cons,List.filterMap_cons,h a (.head _),ih fun x m=>h x (.tail _ m)]
theorem filterMap_zip {α:Type} (pn:List Str):∀ (ys:List α),pn.Nodup→ys.length=pn.length→pn.filterMap (fun n=>((pn.zip ys).lookup n).map (n,·))=pn.zip ys:=by
  induction pn with
  | nil=>exact fun _ _ _=>rfl
  | cons p pn ih =>
    intro ys h hl
    cases ys with
    | nil=>exact nomatch hl
    | cons y ys =>
      have h:=List.nodup_cons.mp h
      have e:pn.filterMap (fun n=>(((p,y) :: pn.zip ys).lookup n).map (n,·))=pn.filterMap (fun n=>((pn.zip ys).lookup n).map (n,·)):=by
        refine fm_congr fun n m=>?_
        rw [List.lookup_cons,show (n == p)=false from beq_eq_false_iff_ne.mpr fun q=>h.1 (q ▸ m)]
      rw [List.zip_cons_cons,List.filterMap_cons_some (b:=(p,y)) (by rw [List.lookup_cons,beq_self_eq_true]; rfl),e,ih ys h.2 (Nat.succ.inj hl)]
theorem zip_snoc {α:Type} (pn:List Str):∀ (ys:List α) (d:α) (h:ys.length < pn.length),pn.zip ys++[(pn[ys.length],d)]=pn.zip (ys++[d]):=by
  induction pn with
  | nil=>exact fun ys d h=>absurd h (Nat.not_lt_zero _)
  | cons p pn ih =>
    intro ys d h
    cases ys with
    | nil=>exact congrArg ((p,d) :: ·) (List.zip_nil_right).symm
    | cons y ys=>exact congrArg ((p,y) :: ·) (ih ys d (Nat.lt_of_succ_lt_succ h))
section
variable {M:Model} {A:Around} {E:Value→Shared→Prop} {s:Shared}
theorem fill_loop (pn:List Str) (h:pn.Nodup) (ds:List Value):∀ (f:Nat) (ys:List Value),f+ds.length=pn.length→f ≤ ys.length→ys.length ≤ pn.length →
    ∀ (Q:List (Str × Value)→Shared→Prop),Q (pn.zip (ys++ds.drop (ys.length - f))) s →
    wpAny M A (forIn ((pn.drop f).zip ds) (pn.zip ys) fun (x:Str × Value) (r:List (Str × Value)) =>
      if (List.lookup x.1 r).isNone=true then (pure (ForInStep.yield (r++[(x.1,x.2)])):Sem (ForInStep (List (Str × Value)))) else pure (ForInStep.yield r)) Q E s:=by
  induction ds with
  | nil =>
    intro f ys e h1 h2 Q q
    rw [List.drop_nil,List.append_nil] at q
    rw [List.zip_nil_right,List.forIn_nil]
    exact wpAny_pure q
  | cons d ds ih =>
    intro f ys e h1 h2 Q q
    have hlt:f < pn.length:=Nat.lt_of_lt_of_le (Nat.lt_add_of_pos_right (Nat.succ_pos _)) (Nat.le_of_eq e)
    have e':f+1+ds.length=pn.length:=by rw [← e,List.length_cons,Nat.add_assoc,Nat.add_comm 1]
    rw [List.drop_eq_getElem_cons hlt,List.zip_cons_cons,List.forIn_cons]
    have e1:=lookup_zip pn ys h f _ (List.getElem?_eq_getElem hlt)
    dsimp only
    rw [e1]
    rcases Nat.lt_or_eq_of_le h1 with hf | hf
    · rw [List.getElem?_eq_getElem hf]
      refine wpAny_bind (wpAny_pure ?_)
      refine ih (f+1) ys e' hf h2 Q ?_
      rw [idx_succ hf,List.drop_succ_cons] at q
      exact q
    · rw [List.getElem?_eq_none (Nat.le_of_eq hf.symm)]
      refine wpAny_bind (wpAny_pure ?_)
      have e2:pn.zip ys++[(pn[f],d)]=pn.zip (ys++[d]):=by
        have:=zip_snoc pn ys d (hf ▸ hlt)
        simp only [← hf] at this
        exact this
      dsimp only
      rw [e2]
      have hl:(ys++[d]).length=f+1:=by rw [List.length_append,← hf]; rfl
      refine ih (f+1) (ys++[d]) e' (Nat.le_of_eq hl.symm) (by rw [hl]; exact hlt) Q ?_
      rw [hl,Nat.sub_self,List.drop_zero,List.append_assoc]
      rw [← hf,Nat.sub_self,List.drop_zero] at q
      exact q
theorem wp_iteF {β:Type} {c:Bool} {x y:Sem β} {Q:β→Shared→Prop} (e:c=false) (h:wpAny M A y Q E s):wpAny M A (if c=true then x else y) Q E s:=by
  rw [e,if_neg Bool.false_ne_true]; exact h
theorem none_missing {pn:List Str} {xs:List Value} {k:Nat} (nd:pn.Nodup) (h:k ≤ xs.length):(!((pn.take k).filter fun n=>(List.lookup n (pn.zip xs)).isNone).isEmpty)=false:=by
  have:((pn.take k).filter fun n=>(List.lookup n (pn.zip xs)).isNone)=[]:=by
    rw [List.filter_eq_nil_iff]
    intro n m
    obtain ⟨i,hi,e⟩:=List.getElem_of_mem m
    rw [List.length_take] at hi
    have hi:=Nat.lt_min.mp hi
    rw [List.getElem_take] at e
    rw [lookup_zip pn xs nd i n (e ▸ List.getElem?_eq_getElem hi.2),List.getElem?_eq_getElem (Nat.lt_of_lt_of_le hi.1 h)]
    exact Bool.false_ne_true
  rw [this]; rfl
theorem dfl_from {a b x:Nat} (h1:x ≤ a) (h3:b ≤ a):x - (a - b)=b - (a - x):=(Nat.sub_sub_right x h3).trans ((congrArg (· - a) (Nat.add_comm x b)).trans (Nat.sub_sub_right b h1).symm)
theorem dfl_len {a:Nat} {xs ds:List Value} (h1:xs.length ≤ a) (h2:a ≤ xs.length+ds.length):(xs++ds.drop (ds.length - (a - xs.length))).length=a:=by
  rw [List.length_append,List.length_drop,Nat.sub_sub_self (Nat.sub_le_iff_le_add'.mpr h2),Nat.add_sub_cancel' h1]
theorem binds_lit {n1 n2:Str} {po ar:List Arg} {kd:List (Option Expr)} {dd:List Expr} {fb:FuncBody} {sc:Scope} {gl bi:Addr} {cl:List (Str × Addr)} {df kw doc pm cd ct:Value} {an:Option Addr} {xs ds:List Value} {pn:List Str} (ep:po.map (·.arg)++ar.map (·.arg)=pn) (nd:pn.Nodup)
    (hd:∀ (Q:Option (Array Value)→Shared→Prop),(∀ r,r.getD #[]=ds.toArray→Q r s)→wpAny M A (seqItems? df) Q E s) (h1:xs.length ≤ pn.length) (h2:pn.length ≤ xs.length+ds.length) (h3:ds.length ≤ pn.length) {Q:List (Str × Value)→Shared→Prop}
    (q:Q (pn.zip (xs++ds.drop (ds.length - (pn.length - xs.length)))) s):wpAny M A (PySem.bindArgs ⟨n1,n2,⟨po,ar,none,[],kd,none,dd⟩,fb,sc,gl,cl,df,kw,doc,pm,an,cd,ct,bi⟩ ⟨xs,[]⟩) Q E s:=by
  unfold PySem.bindArgs
  dsimp only [List.map_nil,List.forIn_nil]
  rw [ep]
  refine wpAny_bind (wpAny_pure (wpAny_bind (hd _ fun r hr=>?_)))
  rw [hr]
  refine wp_iteF (by rw [decide_eq_false (Nat.not_lt.mpr h1)]; rfl) ?_
  have e1:ds.toArray.toList.drop (ds.toArray.toList.length - pn.length)=ds:=by
    show ds.drop (ds.length - pn.length)=ds
    rw [Nat.sub_eq_zero_of_le h3,List.drop_zero]
  rw [e1]
  have h4:pn.length - ds.length ≤ xs.length:=Nat.sub_le_iff_le_add.mpr h2
  refine wp_iteF (none_missing nd h4) ?_
  refine wpAny_bind (fill_loop pn nd ds (pn.length - ds.length) xs (Nat.sub_add_cancel h3) h4 h1 _ ?_)
  refine wpAny_bind (wpAny_pure (wp_iteF rfl ?_))
  rw [List.map_nil,List.append_nil]
  dsimp only
  rw [dfl_from h1 h3,filterMap_zip pn _ nd (dfl_len h1 h2)]
  exact wpAny_pure q
theorem binds_pos {fd:FuncData} {xs ds:List Value} (hp:plainPars fd.params=true) (nd:(pnOf fd).Nodup) (hd:∀ (Q:Option (Array Value)→Shared→Prop),(∀ r,r.getD #[]=ds.toArray→Q r s)→wpAny M A (seqItems? fd.defaults) Q E s)
    (h1:xs.length ≤ (pnOf fd).length) (h2:(pnOf fd).length ≤ xs.length+ds.length) (h3:ds.length ≤ (pnOf fd).length) {Q:List (Str × Value)→Shared→Prop}
    (q:Q ((pnOf fd).zip (xs++ds.drop (ds.length - ((pnOf fd).length - xs.length)))) s):wpAny M A (PySem.bindArgs fd ⟨xs,[]⟩) Q E s:=by
  obtain ⟨v1,v2,v3⟩:=plainPars_spec hp
  clear hp
  obtain ⟨n1,n2,⟨po,ar,va,ko,kd,ka,dd⟩,fb,sc,gl,cl,df,kw,doc,pm,an,cd,ct,bi⟩:=fd
  rw [show va=none from v1,show ko=[] from v2,show ka=none from v3]
  exact binds_lit rfl nd hd h1 h2 h3 q
end
end Mine
end
section
open PySem PySem.W PySem.Calls PyProof.Rows
set_option backward.match.sparseCases false
set_option maxHeartbeats 4000000
set_option tactic.hygienic false
namespace Mine
theorem findCls_onew (K:Frag):findCls K (.type "object") (.type "type") "__new__"=some (.val (.builtin "object.__new__")):=by kernel_rfl
theorem typeOf_object:typeOf (.type "object")=pure (.type "type"):=by kernel_rfl
theorem stub_object:Manifest.isStub "object"=false:=by decide +kernel
structure PeekOk (K:Frag) (CS:Addr):Prop where
  made:∀ S,peek K S (Bind.madeBy (.ref CS))=some none
  here:∀ S,peek K S (Bind.madeHere "object.__new__" (.ref CS))=some ()
  base:∀ S,peek K S (Bind.staticBase (.ref CS))=some (.type "object")
  madeO:∀ S,peek K S (Bind.madeBy (.type "object"))=some (some "object.__new__")
theorem anyOf {α:Type} {o:Option α} {p:α→Bool} (h:o.any p=true):∃ a,o=some a∧p a=true:=by
  cases o with
  | none=>exact noTrue h
  | some a=>exact ⟨a,rfl,h⟩
theorem head_of {l:List Value} {v:Value} (h:(l.head? == some v)=true):∃ r,l=v :: r:=by
  cases l with
  | nil=>exact noTrue h
  | cons a r=>exact ⟨r,congrArg (· :: r) (Option.some.inj (eq_of_beq h))⟩
noncomputable def clsFine:Data→Bool
  | .cls cd=>!cd.abstract&&(!cd.hasDel&&!cd.mro.isEmpty)
  | _=>false
structure IoCls (K:Frag) (C p fN:Addr):Prop where
  cls:((K.lookup C).any fun o=>clsFine o.data)=true
  pk:PeekOk K C
  typ:instIn K (.ref C) (.type "type")=some true
  call:specialIn K (.ref C) "__call__"=some (some (.builtin "type.__call__"))
  self:subIn K (.ref C) (.ref C)=some true
  top:subIn K (.ref C) (.type "object")=some true
  reads:readsIn K C (.type "type")=true
  find:findCls K (.ref C) (.type "type") "__new__"=some (.get (.builtin "staticmethod.__get__") (.ref p) .none (.ref C))
  sm:(recIn K p "staticmethod").any (fun l=>l.head? == some (.ref fN))=true
  keep:keepIn K (.ref fN)=true
section
variable {prog:Program} {w:World} {A:Around} {K:Frag} {C p fN:Addr} {R:Result→Shared→Prop} {h:Heap} {g:Array GenState} {d:Drawn} {t:Nat} {os:OsState} {E:Value→Shared→Prop} {s:Shared}
theorem getm_type_val {Tn:String} {name:Str} {v:Value} {pl:Sem Bool} {Q:Value × List Value→Shared→Prop} (X:K.In s.heap) (ht:typeOf (.type Tn)=pure (.type "type")) (hs:Manifest.isStub Tn=false)
    (e:findCls K (.type Tn) (.type "type") name=some (.val v)) (hh:handedIn v=true)
    (h:Q (v,[]) { s with toks:=s.toks+1 }):wpAny (model prog w) A (getMethod (.type Tn) name pl) Q E s:=by
  have hstub:opaqueClassAbove (.type Tn)=pure none:=by unfold opaqueClassAbove; dsimp only; rw [hs]; rfl
  have L0:Looks (model prog w) s.heap (typeOf (.type Tn)) (.type "type"):=Looks.of_pure ht
  have hg:=type_tga' K
  unfold getMethod specialOf
  refine wpAny_bind (wpAny_bind (L0.here ((looks_findIn X hg).here ?_)))
  dsimp only
  rw [if_pos canon_tga]
  refine wpAny_bind (wpAny_mono (Q:=fun v s'=>Q (v,[]) s') (E:=E) ?_ (fun _ _ z=>wpAny_pure z) fun _ _ z=>z)
  have LO:Looks (model prog w) s.heap (opaqueClassAbove (.type Tn)) none:=Looks.of_pure hstub
  refine cls_open X LO L0 hg (looks_hook X (r:=none) (by rfl)) (by show subIn K _ _=_; rfl) e ?_
  show wpAny _ _ (ret v) _ _ _
  exact wpAny_pure (by show wpAny _ _ (handedOut v) _ _ _; rw [handedOut_of hh]; exact wpAny_pure h)
inductive ClsHas (h:Heap) (C:Addr):Prop
  | mk (oc:Value) (od:Option Addr) (cd:ClassData) (sl:Array (Option Value)) (hC:h.get? C=some ⟨oc,od,.cls cd,sl⟩) (e1:cd.abstract=false) (e2:cd.hasDel=false) (e4:cd.mro.isEmpty=false):ClsHas h C
theorem IoCls.obj (I:IoCls K C p fN) (X:K.In h):ClsHas h C:=by
  obtain ⟨⟨oc,od,dt,sl⟩,e,h⟩:=anyOf I.cls
  have e:=X _ _ e
  cases dt with
  | cls cd=>exact ⟨oc,od,cd,sl,e,not_of (and_of h).1,not_of (and_of (and_of h).2).1,not_of (and_of (and_of h).2).2⟩
  | _=>exact noTrue h
theorem wp_iteT {M:Model} {β:Type} {c:Bool} {x y:Sem β} {Q:β→Shared→Prop} (e:c=true) (h:wpAny M A x Q E s):wpAny M A (if c=true then x else y) Q E s:=by
  rw [e,if_pos rfl]; exact h
theorem new_args {C:Addr}:Bind.checkArgs "object.__new__" ⟨.hand,"object.__new__","__new__",.cls,[]⟩ ⟨[.ref C],[]⟩=pure ():=by kernel_rfl
theorem new_check (typ:Looks (model prog w) h (isType (.ref C)) true) (top:Looks (model prog w) h (isSubtype (.ref C) (.type "object")) true) (base:Looks (model prog w) h (Bind.staticBase (.ref C)) (.type "object")) (madeO:Looks (model prog w) h (Bind.madeBy (.type "object")) (some "object.__new__"))
    {Q:Unit→Shared→Prop} (q:Q () ⟨h,g,d,t,os⟩):wpAny (model prog w) A (checkBuiltinCall "object.__new__" ⟨[.ref C],[]⟩) Q E ⟨h,g,d,t,os⟩:=by
  unfold checkBuiltinCall
  rw [PySem.F.objNew.kind,PySem.F.objNew.split,PySem.F.objNew.row]
  dsimp only
  refine wp_iteT (by decide +kernel) ?_
  refine wpAny_bind (typ.here ?_)
  refine wp_iteF rfl ?_
  refine wpAny_bind (top.here ?_)
  refine wp_iteF rfl ?_
  refine wpAny_bind (base.here ?_)
  refine wpAny_bind (madeO.here ?_)
  dsimp only
  refine wp_iteF (bne_self_eq_false _) ?_
  rw [new_args]
  exact wpAny_pure q
theorem new_fin {dt:Option Addr} {oc:Value} {cd:ClassData} {sl:Array (Option Value)} {Q:Fin→Shared→Prop} (hC:h.get? C=some ⟨oc,dt,.cls cd,sl⟩) (e2:cd.hasDel=false)
    (hq:Q (.done (.ret (.ref (h.objs.size+1)))) ⟨(h.push emptyDict).push (instObj C h.objs.size),g,d,t,os⟩):wpAny (model prog w) A (some <$> alloc emptyDict >>= fun d=>newObj (.ref C) .plain d >>= fun v=>ret v) Q E ⟨h,g,d,t,os⟩:=by
  show wpAny _ _ ((alloc emptyDict >>= fun x=>pure (some x)) >>= _) _ _ _
  refine wpAny_bind (wpAny_bind (wpAny_alloc (wpAny_pure (wpAny_bind ?_))))
  show wpAny _ _ (newObjAsIs _ _ _) _ _ _
  unfold newObjAsIs classHasDel
  refine wpAny_bind (wpAny_alloc (wpAny_bind (wpAny_bind (wpAny_load (Heap.get?_push_of_some _ (Heap.get?_push_of_some _ hC)) (wpAny_pure ?_)))))
  rw [e2]
  refine wpAny_pure (wpAny_pure ?_)
  rw [Heap.size_push]
  exact hq
theorem new_body {dt:Option Addr} {oc:Value} {cd:ClassData} {sl:Array (Option Value)} {Q:Fin→Shared→Prop} (hC:h.get? C=some ⟨oc,dt,.cls cd,sl⟩) (e1:cd.abstract=false) (e2:cd.hasDel=false) (typ:Looks (model prog w) h (isType (.ref C)) true) (here:Looks (model prog w) h (Bind.madeHere "object.__new__" (.ref C)) ())
    (hq:Q (.done (.ret (.ref (h.objs.size+1)))) ⟨(h.push emptyDict).push (instObj C h.objs.size),g,d,t,os⟩):wpAny (model prog w) A (Builtin.«object.__new__» ⟨[.ref C],[]⟩) Q E ⟨h,g,d,t,os⟩:=by
  unfold Builtin.«object.__new__»
  dsimp only
  refine wpAny_bind (typ.here ?_)
  refine wp_iteF rfl ?_
  refine wpAny_bind (here.here ?_)
  refine wp_iteF rfl ?_
  have cl:Looks (model prog w) h (classData C) cd:=(Looks.ld (part:=none) hC).andThen .now
  refine wpAny_bind (cl.here ?_)
  refine wp_iteF e1 ?_
  refine wp_iteT rfl ?_
  exact new_fin hC e2 hq
theorem new_io (I:IoCls K C p fN) (X:K.In h)
    (hq:R (.ok (.ret (.ref (h.objs.size+1)))) ⟨(h.push emptyDict).push (instObj C h.objs.size),g,d,t,os⟩) :
    codeAny (model prog w) A (.call (.builtin "object.__new__") ⟨[.ref C],[]⟩) R ⟨h,g,d,t,os⟩:=by
  obtain ⟨oc,od,cd,sl,hC,e1,e2,e4⟩:=I.obj X
  have typ:Looks (model prog w) h (isType (.ref C)) true:=(Looks.ld hC).andThen .now
  refine codeAny_call_builtin_code (Code.quiet_builtin _ PySem.F.objNew.quiet) (new_check typ (looks_subIn X I.top) (.of_peek X (I.pk.base _)) (.of_peek X (I.pk.madeO _)) ?_)
  exact codeAny_builtin PySem.F.objNew.entry (new_body hC e1 e2 typ (.of_peek X (I.pk.here _)) hq)
end
noncomputable def ioPars (p:Arguments):Bool:=(one p.posonlyargs).any (·.arg == ("cls":Str))&&(p.args.isEmpty&&(p.vararg.any (·.arg == ("args":Str))&&(p.kwonlyargs.isEmpty&&p.kwarg.any (·.arg == ("kwargs":Str)))))
noncomputable def isIsNot:CmpOp→Bool
  | .IsNot=>true
  | _=>false
noncomputable def isName (x:Str) (e:Expr):Bool:=nameOf e == some x
noncomputable def ioTest (x y:Str):Expr→Bool
  | .Compare l os rs _=>isName x l&&((one os).any isIsNot&&(one rs).any (isName y))
  | _=>false
noncomputable def isAnd:BoolOp→Bool
  | .And=>true
  | .Or=>false
noncomputable def pairB (p q:Expr→Bool):List Expr→Bool
  | []=>false
  | e :: r=>p e&&(one r).any q
noncomputable def ioAnd:Expr→Bool
  | .BoolOp o es _=>isAnd o&&pairB (ioTest "cls" "BytesIO") (ioTest "cls" "StringIO") es
  | _=>false
noncomputable def ioIf:Stmt→Bool
  | .If t _ el _=>ioAnd t&&el.isEmpty
  | _=>false
noncomputable def ioAttr (l:Nat):Expr→Bool
  | .Attribute o n ap=>isName "object" o&&(n == "__new__"&&ap.endLine == l)
  | _=>false
noncomputable def ioCall:Expr→Bool
  | .Call f as ks cp=>ioAttr cp.line f&&((one as).any (isName "cls")&&ks.isEmpty)
  | _=>false
noncomputable def ioRet:Stmt→Bool
  | .Return e _=>e.any ioCall
  | _=>false
noncomputable def ioBody:List Stmt→Bool
  | []=>false
  | a :: r=>ioIf a&&(one r).any ioRet
theorem isName_of {x:Str} {e:Expr} (h:isName x e=true):∃ p,e=.Name x p:=name_of (eq_of_beq h)
theorem isIsNot_of {o:CmpOp} (h:isIsNot o=true):o=.IsNot:=by cases o<;>first | rfl | exact noTrue h
theorem isAnd_of {o:BoolOp} (h:isAnd o=true):o=.And:=by cases o<;>first | rfl | exact noTrue h
theorem pairB_of {p q:Expr→Bool} {es:List Expr} (h:pairB p q es=true):∃ a b,es=[a,b]∧p a=true∧q b=true:=by
  cases es with
  | nil=>exact noTrue h
  | cons a r =>
    obtain ⟨h1,h2⟩:=and_of h
    obtain ⟨b,e,h3⟩:=anyOf h2
    exact ⟨a,b,by rw [one_is e],h1,h3⟩
theorem ioTest_of {x y:Str} {e:Expr} (h:ioTest x y e=true):∃ p q r,e=.Compare (.Name x p) [.IsNot] [.Name y q] r:=by
  cases e with
  | Compare l os rs r =>
    obtain ⟨h1,h2⟩:=and_of h
    obtain ⟨h3,h4⟩:=and_of h2
    obtain ⟨o,e1,h5⟩:=anyOf h3
    obtain ⟨b,e2,h6⟩:=anyOf h4
    obtain ⟨p,hl⟩:=isName_of h1
    obtain ⟨q,hb⟩:=isName_of h6
    exact ⟨p,q,r,by rw [one_is e1,one_is e2,hl,hb,isIsNot_of h5]⟩
  | _=>exact noTrue h
theorem ioAnd_of {e:Expr} (h:ioAnd e=true):∃ p1 q1 r1 p2 q2 r2 bp,e=.BoolOp .And [.Compare (.Name "cls" p1) [.IsNot] [.Name "BytesIO" q1] r1,.Compare (.Name "cls" p2) [.IsNot] [.Name "StringIO" q2] r2] bp:=by
  cases e with
  | BoolOp o es bp =>
    obtain ⟨h1,h2⟩:=and_of h
    obtain ⟨a,b,he,h3,h4⟩:=pairB_of h2
    obtain ⟨p1,q1,r1,ha⟩:=ioTest_of h3
    obtain ⟨p2,q2,r2,hb⟩:=ioTest_of h4
    exact ⟨p1,q1,r1,p2,q2,r2,bp,by rw [isAnd_of h1,he,ha,hb]⟩
  | _=>exact noTrue h
theorem ioIf_of {s:Stmt} (h:ioIf s=true):∃ p1 q1 r1 p2 q2 r2 bp th ip,s=.If (.BoolOp .And [.Compare (.Name "cls" p1) [.IsNot] [.Name "BytesIO" q1] r1,.Compare (.Name "cls" p2) [.IsNot] [.Name "StringIO" q2] r2] bp) th [] ip:=by
  cases s with
  | If t th el ip =>
    obtain ⟨h1,h2⟩:=and_of h
    obtain ⟨p1,q1,r1,p2,q2,r2,bp,ht⟩:=ioAnd_of h1
    exact ⟨p1,q1,r1,p2,q2,r2,bp,th,ip,by rw [ht,nil_of h2]⟩
  | _=>exact noTrue h
theorem ioAttr_of {l:Nat} {e:Expr} (h:ioAttr l e=true):∃ op ap,e=.Attribute (.Name "object" op) "__new__" ap∧(ap.endLine == l)=true:=by
  cases e with
  | Attribute o n ap =>
    obtain ⟨h1,h2⟩:=and_of h
    obtain ⟨h3,h4⟩:=and_of h2
    obtain ⟨op,ho⟩:=isName_of h1
    exact ⟨op,ap,by rw [ho,eq_of_beq h3],h4⟩
  | _=>exact noTrue h
theorem ioCall_of {e:Expr} (h:ioCall e=true):∃ op ap cp q,e=.Call (.Attribute (.Name "object" op) "__new__" ap) [.Name "cls" q] [] cp∧(ap.endLine == cp.line)=true:=by
  cases e with
  | Call f as ks cp =>
    obtain ⟨h1,h2⟩:=and_of h
    obtain ⟨h3,h4⟩:=and_of h2
    obtain ⟨a,e2,h5⟩:=anyOf h3
    obtain ⟨q,ha⟩:=isName_of h5
    obtain ⟨op,ap,hf,h6⟩:=ioAttr_of h1
    exact ⟨op,ap,cp,q,by rw [hf,one_is e2,ha,nil_of h4],h6⟩
  | _=>exact noTrue h
theorem ioRet_of {s:Stmt} (h:ioRet s=true):∃ op ap cp q rp,s=.Return (some (.Call (.Attribute (.Name "object" op) "__new__" ap) [.Name "cls" q] [] cp)) rp∧(ap.endLine == cp.line)=true:=by
  cases s with
  | Return e rp =>
    obtain ⟨c,he,h1⟩:=anyOf h
    obtain ⟨op,ap,cp,q,hc,h2⟩:=ioCall_of h1
    exact ⟨op,ap,cp,q,rp,by rw [he,hc],h2⟩
  | _=>exact noTrue h
theorem ioBody_of {b:List Stmt} (h:ioBody b=true):∃ a r,b=[a,r]∧ioIf a=true∧ioRet r=true:=by
  cases b with
  | nil=>exact noTrue h
  | cons a l =>
    obtain ⟨h1,h⟩:=and_of h
    obtain ⟨r,e,h⟩:=anyOf h
    cases one_is e
    exact ⟨a,r,rfl,h1,h⟩
section
variable {M:Model} {A:Around} {E:Value→Shared→Prop} {s:Shared}
theorem io_eq {n1 n2:Str} {a b c:Option Expr} {p q r:Pos} {kd:List (Option Expr)} {dd:List Expr} {fb:FuncBody} {sc:Scope} {gl bi:Addr} {cl:List (Str × Addr)} {kw doc pm cd ct x y:Value} {an:Option Addr} :
    PySem.bindArgs ⟨n1,n2,⟨[⟨"cls",a,p⟩],[],some ⟨"args",b,q⟩,[],kd,some ⟨"kwargs",c,r⟩,dd⟩,fb,sc,gl,cl,.none,kw,doc,pm,an,cd,ct,bi⟩ ⟨[x,y],[]⟩=(newTuple [y] >>= fun t=>alloc emptyDict >>= fun d=>Pure.pure [(("cls":Str),x),(("args":Str),t),(("kwargs":Str),Value.ref d)]):=by kernel_rfl
theorem argOf {x:Str} {a:Arg} (h:(a.arg == x)=true):a=⟨x,a.annotation,a.pos⟩:=by
  obtain ⟨y,e,p⟩:=a
  rw [show y=x from eq_of_beq h]
theorem ioPars_of {p:Arguments} (h:ioPars p=true):∃ a p1 b p2 kd c p3 dd,p=⟨[⟨"cls",a,p1⟩],[],some ⟨"args",b,p2⟩,[],kd,some ⟨"kwargs",c,p3⟩,dd⟩:=by
  obtain ⟨po,ar,va,ko,kd,ka,dd⟩:=p
  obtain ⟨h1,h⟩:=and_of h
  obtain ⟨h2,h⟩:=and_of h
  obtain ⟨h3,h⟩:=and_of h
  obtain ⟨h4,h5⟩:=and_of h
  obtain ⟨a,e1,g1⟩:=anyOf h1
  obtain ⟨b,e3,g3⟩:=anyOf h3
  obtain ⟨c,e5,g5⟩:=anyOf h5
  refine ⟨a.annotation,a.pos,b.annotation,b.pos,kd,c.annotation,c.pos,dd,?_⟩
  rw [← argOf g1,← argOf g3,← argOf g5,show po=[a] from one_is e1,show ar=[] from nil_of h2,show va=some b from e3,show ko=[] from nil_of h4,show ka=some c from e5]
theorem binds_io {fd:FuncData} {x y:Value} (hp:ioPars fd.params=true) (hd:fd.defaults=.none) {Q:List (Str × Value)→Shared→Prop}
    (q:Q [("cls",x),("args",.ref s.heap.objs.size),("kwargs",.ref (s.heap.objs.size+1))] { s with heap:=(s.heap.push { cls:=.type "tuple",data:=.seq [y].toArray }).push emptyDict }) :
    wpAny M A (PySem.bindArgs fd ⟨[x,y],[]⟩) Q E s:=by
  obtain ⟨a,p1,b,p2,kd,c,p3,dd,e⟩:=ioPars_of hp
  clear hp
  obtain ⟨n1,n2,ps,fb,sc,gl,cl,df,kw,doc,pm,an,cd,ct,bi⟩:=fd
  rw [show ps=_ from e,show df=.none from hd,io_eq]
  refine wpAny_bind (wpAny_newTuple (wpAny_bind (wpAny_alloc (wpAny_pure ?_))) (by simp [sizeLine]))
  rw [Heap.size_push]
  exact q
end
section
variable {prog:Program} {w:World} {A:Around} {K:Frag} {C B p fN:Addr} {R:Result→Shared→Prop} {E:Value→Shared→Prop} {s:Shared} {env:Env} {mg mb:Str→Option Value}
theorem wp_glob0 {x:Str} {pos:Pos} (k:env.scope.kind=.function) (hg:env.scope.names.lookup x=some .globalImplicit) (ho:okName x=true) (g:s.heap.Ns env.globals mg) (b:s.heap.Ns env.builtins mb) {v:Value} {Q:Value→Shared→Prop}
    (hv:mg x=some v ∨ mg x=none∧mb x=some v) (h:Q v s):wpAny (model prog w) A (eval (.Name x pos) env) Q E s:=by
  have hd:(x == ("__debug__":Str))=false:=by
    unfold okName at ho; simp only [Bool.and_eq_true,bne_iff_ne] at ho; simpa using ho.1
  refine Calls.Name_function_global k hg ?_ hd
  rcases hv with hv | ⟨h1,h2⟩
  · exact Calls.loadGlobal_global g hv h
  · exact Calls.loadGlobal_builtin g h1 b h2 h
theorem isNot_refs {a b:Addr} {oa ob:Obj} {Q:Value→Shared→Prop} (ga:s.heap.get? a=some oa) (gb:s.heap.get? b=some ob) (ct:oa.cls ≠ .type "tuple") (h:Q (.bool (!(a == b))) s):wpAny (model prog w) A (compareOp .IsNot (.ref a) (.ref b)) Q E s:=by
  show wpAny _ A (do return .bool (!(← isSame (.ref a) (.ref b)))) Q E s
  by_cases hab:a=b
  · subst hab
    rw [beq_self_eq_true] at h
    exact wpAny_bind (wpAny_isSame_ref_self (wpAny_pure h))
  · rw [beq_eq_false_iff_ne.mpr hab] at h
    exact wpAny_bind (wpAny_isSame_ref_other hab ga gb ct (wpAny_pure h))
theorem is_not_test {x y:Str} {p1 p2 p3:Pos} {m:Str→Option Value} {Q:Bool→Shared→Prop} {a b:Addr} (hu:A.units+2 < cLine) (k:env.scope.kind=.function) (hx:env.scope.names.lookup x=some .local) (hy:env.scope.names.lookup y=some .globalImplicit) (ox:okName x=true) (oy:okName y=true)
    (g:s.heap.Ns env.globals mg) (bb:s.heap.Ns env.builtins mb) (hn:s.heap.Ns env.locals m) (hm:m x=some (.ref a)) (hy2:mg y=some (.ref b)) {oa ob:Obj} (ga:s.heap.get? a=some oa) (gb:s.heap.get? b=some ob) (ct:oa.cls ≠ .type "tuple") (q:Q (!(a == b)) s) :
    wpAny (model prog w) A (isTrue (.Compare (.Name x p1) [.IsNot] [.Name y p2] p3) env (eval (.Compare (.Name x p1) [.IsNot] [.Name y p2] p3) env)) Q E s:=by
  have hd:(x == ("__debug__":Str))=false:=by
    unfold okName at ox; simp only [Bool.and_eq_true,bne_iff_ne] at ox; simpa using ox.1
  rw [arm_isTrue_Compare]
  refine wpAny_bind (wpAny_Name (wpAny_loadName_local k hx hn hm ?_) hd)
  show wpAny _ _ (do let rv ← holding [.ref a] (markedBehindIn .IsNot (.Name y p2) (eval (.Name y p2) env)); standAt p3; let c ← PySem.operate [.ref a,rv] (compareOp .IsNot (.ref a) rv); holding [c] (truthy c)) _ _ _
  rw [markedOff rfl]
  refine wpAny_bind (wpAny_holding (wp_glob0 k hy oy g bb (.inl hy2) ?_))
  refine wpAny_bind (wpAny_standAt ?_)
  refine wpAny_bind (wpAny_operate' (isNot_refs ga gb ct ?_))
  exact wpAny_holding (wpAny_truthy_bool q)
end
section
variable {prog:Program} {w:World} {A:Around} {K:Frag} {C B p fN:Addr} {R:Result→Shared→Prop} {E:Value→Shared→Prop} {s:Shared} {env:Env} {mg mb:Str→Option Value}
theorem io_call (I:IoCls K C p fN) {q9 ap cp q10:Pos} (hp:(ap.endLine == cp.line)=true) (k:env.scope.kind=.function) (n1:env.scope.names.lookup ("cls":Str)=some .local) (n4:env.scope.names.lookup ("object":Str)=some .globalImplicit)
    (X:K.In s.heap) (g:s.heap.Ns env.globals mg) (bb:s.heap.Ns env.builtins mb) {m:Str→Option Value} (hn:s.heap.Ns env.locals m) (hm:m "cls"=some (.ref C)) (g3:mg "object"=none) (g4:mb "object"=some (.type "object")) {Q:Value→Shared→Prop}
    (q:∀ tk,Q (.ref (s.heap.objs.size+1)) ⟨(s.heap.push emptyDict).push (instObj C s.heap.objs.size),s.gens,s.drawn,tk,s.os⟩):wpAny (model prog w) A (eval (.Call (.Attribute (.Name "object" q9) "__new__" ap) [.Name "cls" q10] [] cp) env) Q E s:=by
  rw [arm_eval_Call,backTo_star (show anyStar [Expr.Name "cls" q10]=false from rfl),attrBase rfl]
  refine wpAny_bind (wp_glob0 k n4 (by decide) g bb (.inr ⟨g3,g4⟩) ?_)
  refine wpAny_bind (wpAny_standAt ?_)
  unfold methodCall
  rw [methForm (es:=[Expr.Name "cls" q10]) (show 1 ≤ 20 by decide)]
  refine wpAny_bind (wpAny_holding ?_)
  unfold calleeOf
  simp only [if_true]
  refine getm_type_val X typeOf_object stub_object (findCls_onew K) rfl ?_
  dsimp only
  have tail:∀ pp:Pos,wpAny (model prog w) A (callWith pp (.builtin "object.__new__") [] ([Expr.Name "cls" q10].map fun e=>(false,eval e env)) []) Q E { s with toks:=s.toks+1 }:=by
    intro pp
    refine callWith_of (P:=K.In) rfl (fun h X=>⟨.machine,.inr (.inl rfl),fun A Q E s k q=>wpAny_pure q⟩) ?_
    rw [evalArgs_map]
    show wpAny _ _ ((eval (.Name "cls" q10) env >>= fun v=>Pure.pure [v] >>= fun here=>holding here (spliced []) >>= fun r=>Pure.pure (here++r)) >>= _) _ _ _
    refine wpAny_bind (wpAny_bind (wpAny_Name (wpAny_loadName_local k n1 hn hm ?_)))
    refine wpAny_bind (wpAny_pure (wpAny_bind (wpAny_holding (wpAny_pure (wpAny_pure ?_)))))
    refine wpAny_holding ?_
    show wpAny _ _ (evalAll [] >>= fun _=>Pure.pure _ >>= fun p=>Pure.pure (⟨p,[]⟩:Args)) _ _ _
    refine wpAny_bind (m:=evalAll []) (wpAny_pure (wpAny_bind (wpAny_pure (wpAny_pure ⟨X,?_⟩))))
    obtain ⟨hh,gg,dd,tt,oo⟩:=s
    exact wpAny_call (new_io I X (q _))
  unfold methodCallPos
  rw [hp]
  exact wpAny_bind (wpAny_pure (tail _))
theorem io_test (hu:A.units+2 < cLine) (k:env.scope.kind=.function) (n1:env.scope.names.lookup ("cls":Str)=some .local) (n2:env.scope.names.lookup ("BytesIO":Str)=some .globalImplicit)
    (n3:env.scope.names.lookup ("StringIO":Str)=some .globalImplicit) (g:s.heap.Ns env.globals mg) (bb:s.heap.Ns env.builtins mb) {m:Str→Option Value} (hn:s.heap.Ns env.locals m)
    (hm:m "cls"=some (.ref C)) (g1:mg "BytesIO"=some (.ref B)) (g2:mg "StringIO"=some (.ref C)) {oa ob:Obj} (ga:s.heap.get? C=some oa) (gb:s.heap.get? B=some ob) (ct:oa.cls ≠ .type "tuple") (hBC:(C == B)=false) {q2 q4' q3 q4 q5 q6:Pos} {Q:Bool→Shared→Prop}
    (q:Q false s):wpAny (model prog w) A (allTrue .And [.Compare (.Name "cls" q2) [.IsNot] [.Name "BytesIO" q4'] q3,.Compare (.Name "cls" q4) [.IsNot] [.Name "StringIO" q5] q6] env) Q E s:=by
  rw [arm_allTrue_cons]
  refine wpAny_bind (is_not_test hu k n1 n2 (by decide) (by decide) g bb hn hm g1 ga gb ct ?_)
  rw [hBC]
  show wpAny _ _ (allTrue .And [.Compare (.Name "cls" q4) [.IsNot] [.Name "StringIO" q5] q6] env) _ _ _
  rw [arm_allTrue_cons]
  refine wpAny_bind (is_not_test hu k n1 n3 (by decide) (by decide) g bb hn hm g2 ga ga ct ?_)
  rw [beq_self_eq_true]
  exact wpAny_pure q
theorem io_body (I:IoCls K C p fN) {body:List Stmt} (hb:ioBody body=true) (hu:A.units+2 < cLine) (k:env.scope.kind=.function) (n1:env.scope.names.lookup ("cls":Str)=some .local) (n2:env.scope.names.lookup ("BytesIO":Str)=some .globalImplicit)
    (n3:env.scope.names.lookup ("StringIO":Str)=some .globalImplicit) (n4:env.scope.names.lookup ("object":Str)=some .globalImplicit) (X:K.In s.heap) (g:s.heap.Ns env.globals mg) (bb:s.heap.Ns env.builtins mb) {m:Str→Option Value} (hn:s.heap.Ns env.locals m)
    (hm:m "cls"=some (.ref C)) (g1:mg "BytesIO"=some (.ref B)) (g2:mg "StringIO"=some (.ref C)) (g3:mg "object"=none) (g4:mb "object"=some (.type "object")) {oa ob:Obj} (ga:s.heap.get? C=some oa) (gb:s.heap.get? B=some ob) (ct:oa.cls ≠ .type "tuple") (hBC:(C == B)=false) {Q:Flow→Shared→Prop}
    (q:∀ tk,Q (.ret (.ref (s.heap.objs.size+1))) ⟨(s.heap.push emptyDict).push (instObj C s.heap.objs.size),s.gens,s.drawn,tk,s.os⟩):wpAny (model prog w) A (PySem.execs body env) Q E s:=by
  obtain ⟨a,r,rfl,ha,hr⟩:=ioBody_of hb
  obtain ⟨q2,q4',q3,q4,q5,q6,q7,th,q8,rfl⟩:=ioIf_of ha
  obtain ⟨q9,ap,cp,q10,q11,rfl,hp⟩:=ioRet_of hr
  clear hb ha hr
  refine wpAny_execs_cons ?_
  rw [arm_exec_If,arm_isTrue_BoolOp]
  refine wpAny_bind (wpAny_standAt ?_)
  refine wpAny_bind (io_test hu k n1 n2 n3 g bb hn hm g1 g2 ga gb ct hBC ?_)
  show wpAny _ _ (PySem.execs [] env) _ _ _
  refine wpAny_execs_nil ?_
  show wpAny _ _ (PySem.execs _ env) _ _ _
  refine wpAny_execs_cons ?_
  rw [arm_exec_Return]
  refine wpAny_bind (wpAny_standAt ?_)
  show wpAny _ _ (eval _ env >>= fun v=>Pure.pure (Flow.ret v)) _ _ _
  exact wpAny_bind (io_call I hp k n1 n4 X g bb hn hm g3 g4 fun tk=>wpAny_pure (q tk))
end
structure IoFn (K:Frag) (fN:Addr) (fd:FuncData) (body:List Stmt):Prop where
  isfd:fdIn K fN=some fd
  co:fd.scope.isCoroutine=false
  gen:fd.scope.isGenerator=false
  kind:fd.scope.kind=.function
  clo:fd.closure=[]
  glob:fd.globals=mainGlobals
  bns:fd.builtins=builtinsNs
  code:codeIn K fd.code fd.qualname=true
  pars:ioPars fd.params=true
  dfl:fd.defaults=.none
  bd:fd.body=.stmts body
  io:ioBody body=true
  nocell:∀ x ∈ fd.scope.names,x.2 ≠ .cell
  n1:fd.scope.names.lookup ("cls":Str)=some .local
  n5:fd.scope.names.lookup ("args":Str)=some .local
  n6:fd.scope.names.lookup ("kwargs":Str)=some .local
  n2:fd.scope.names.lookup ("BytesIO":Str)=some .globalImplicit
  n3:fd.scope.names.lookup ("StringIO":Str)=some .globalImplicit
  n4:fd.scope.names.lookup ("object":Str)=some .globalImplicit
theorem fn_io {C:Cx} {Ca B p fN:Addr} {fd:FuncData} {body:List Stmt} (X0:CxOk C) (I:IoCls C.K Ca p fN) (N:IoFn C.K fN fd body) (nl:C.h₀.NoLimit)
    (g1:C.mg "BytesIO"=some (.ref B)) (g2:C.mg "StringIO"=some (.ref Ca)) (g3:C.mg "object"=none) (g4:C.mb "object"=some (.type "object")) (hBC:(Ca == B)=false) (hB:(C.K.lookup B).isSome=true) (ct:typeIn C.K (.ref Ca)=some (.type "type"))
    {A:Around} {v:Value} {s:Shared} (X:C.K.In s.heap) (base:∀ b o,C.h₀.get? b=some o→s.heap.get? b=some o) (hd:A.depth ≤ 901) (hu:A.units ≤ 9010) {R:Result→Shared→Prop}
    (h:∀ h' x dx tk,(∀ b o,s.heap.get? b=some o→h'.get? b=some o)→s.heap.objs.size ≤ dx→dx < x→h'.get? dx=some emptyDict→h'.get? x=some (instObj Ca dx)→R (.ok (.ret (.ref x))) ⟨h',s.gens,s.drawn,tk,s.os⟩) :
    codeAny (model C.prog C.w) A (.call (.ref fN) ⟨[.ref Ca,v],[]⟩) R s:=by
  obtain ⟨fc,fod,fsl,hfo⟩:=fdIn_spec N.isfd
  refine codeAny_call_function (Nat.lt_of_le_of_lt hd (by decide)) (X _ _ hfo) rfl N.co N.gen N.bd (codeRec_of X N.code) ?_
  refine binds_io N.pars N.dfl ?_
  generalize hq2:((s.heap.push { cls:=.type "tuple",data:=.seq [v].toArray }).push emptyDict:Heap)=h2
  have k2:∀ b o,s.heap.get? b=some o→h2.get? b=some o:=fun b o e=>by rw [← hq2]; exact Heap.get?_push_of_some _ (Heap.get?_push_of_some _ e)
  have l2:s.heap.objs.size ≤ h2.objs.size:=by rw [← hq2,Heap.size_push,Heap.size_push]; exact Nat.le_add_right _ 2
  clear hq2
  rw [N.clo]
  refine wpAny_newFunctionEnv N.nocell ?_ (fun h3 hns hsb=>?_) N.kind
  · intro x m
    cases m with
    | head=>exact N.n1
    | tail _ m=>cases m with
      | head=>exact N.n5
      | tail _ m=>cases m with
        | head=>exact N.n6
        | tail _ m=>exact nomatch m
  dsimp only
  have k3:∀ b o,s.heap.get? b=some o→h3.get? b=some o:=fun b o e=>hsb.extBut b o (Nat.ne_of_lt (Heap.lt_size (k2 _ _ e))) (Heap.get?_push_of_some _ (k2 _ _ e))
  have kb:∀ b o,C.h₀.get? b=some o→h3.get? b=some o:=fun b o e=>k3 _ _ (base b o e)
  have l3:s.heap.objs.size ≤ h3.objs.size:=Nat.le_trans l2 (Nat.le_of_lt hns.lt)
  have X3:C.K.In h3:=X.keeps k3
  clear k2 l2 X hsb
  refine ⟨nl.keeps kb,?_⟩
  generalize henv:newEnv fd.scope h2.objs.size fd.globals [] (fd.qualname++".<locals>.") (some fN) fd.code none fd.builtins=env
  have v1:env.locals=h2.objs.size:=by rw [← henv]; rfl
  have v2:env.scope=fd.scope:=by rw [← henv]; rfl
  have v3:env.globals=mainGlobals:=by rw [← henv]; exact N.glob
  have v4:env.builtins=builtinsNs:=by rw [← henv]; exact N.bns
  clear henv
  obtain ⟨ob,hob⟩:=Option.isSome_iff_exists.mp hB
  obtain ⟨oa,hoa,hcls⟩:=Option.map_eq_some_iff.mp (show (C.K.lookup Ca).map (·.cls)=_ from ct)
  refine codeAny_func (io_body (mg:=C.mg) (mb:=C.mb) (m:=fun x=>List.lookup x (([(("cls":Str),Value.ref Ca),("args",.ref s.heap.objs.size),("kwargs",.ref (s.heap.objs.size+1))]:List (Str × Value)).reverse)) I N.io ?_ (by rw [v2]; exact N.kind) (by rw [v2]; exact N.n1) (by rw [v2]; exact N.n2) (by rw [v2]; exact N.n3) (by rw [v2]; exact N.n4) X3 (by rw [v3]; exact X0.g.keeps kb) (by rw [v4]; exact X0.b.keeps kb)
    (by rw [v1]; exact hns) (by rfl) g1 g2 g3 g4 (X3 _ _ hoa) (X3 _ _ hob) (by rw [hcls]; exact fun q=>nomatch q) hBC fun tk=>?_)
  · exact Nat.lt_of_le_of_lt (Nat.add_le_add_right hu 5) (by decide)
  exact h _ _ _ tk (fun b o e=>Heap.get?_push_of_some _ (Heap.get?_push_of_some _ (k3 _ _ e))) l3 (Nat.lt_succ_self _) (Heap.get?_push_of_some _ (Heap.get?_push_size _ rfl)) (by heap_get)
theorem io_under {A:Around} {Ca:Addr} {v:Value} (hd:A.depth+1 ≤ 901) (hu:A.units+10 ≤ 9010):(A.under (Code.builtin "type.__call__" ⟨[.ref Ca,v],[]⟩)).depth ≤ 901∧(A.under (Code.builtin "type.__call__" ⟨[.ref Ca,v],[]⟩)).units ≤ 9010 :=
  ⟨Nat.le_trans (Nat.le_of_eq (show A.depth+(mkCode Ca [v] []).weight=A.depth+1 from rfl)) hd,Nat.le_trans (Nat.add_le_add_left (show (mkCode Ca [v] []).cUnits ≤ 10 from Nat.le_of_ble_eq_true (by kernel_rfl)) _) hu⟩
theorem newSat_io {C:Cx} {Ca B p fN fI:Addr} {fd:FuncData} {body:List Stmt} (X0:CxOk C) (I:IoCls C.K Ca p fN) (N:IoFn C.K fN fd body) (nl:C.h₀.NoLimit)
    (g1:C.mg "BytesIO"=some (.ref B)) (g2:C.mg "StringIO"=some (.ref Ca)) (g3:C.mg "object"=none) (g4:C.mb "object"=some (.type "object")) (hBC:(Ca == B)=false) (hB:(C.K.lookup B).isSome=true) (ct:typeIn C.K (.ref Ca)=some (.type "type"))
    (hi:findIn C.K (.ref Ca) "__init__"=some (some (.ref fI))) (hf:typeIn C.K (.ref fI)=some (.type "function")):NewSat C Ca fI 1 0:=by
  intro A s rest kw R X base hd hu hr hk h
  obtain ⟨v,rfl⟩:∃ v,rest=[v]:=by
    cases rest with
    | nil=>cases hr
    | cons v r=>cases r with
      | nil=>exact ⟨v,rfl⟩
      | cons _ _=>exact absurd (Nat.succ.inj hr) (Nat.succ_ne_zero _)
  obtain rfl:kw=[]:=by cases kw with | nil=>rfl | cons _ _=>cases hk
  obtain ⟨oc,od,cd,sl,hC,e1,e2,e4⟩:=I.obj X
  obtain ⟨hp,gn,dr,t,os⟩:=s
  have U:=io_under (A:=A) (Ca:=Ca) (v:=v) (Nat.succ_le_succ hd) (Nat.add_le_add_right hu 10)
  clear hr hk hd hu e1 e2
  have made:Looks (model C.prog C.w) hp (Bind.madeBy (.ref Ca)) none:=.of_peek X (I.pk.made _)
  have call:=looks_specialIn (M:=model C.prog C.w) X I.call
  have typ:Looks (model C.prog C.w) hp (isInstance (.ref Ca) (.type "type")) true:=looks_instIn X I.typ
  refine codeAny_of_tree ?_
  show wpAny _ _ (callAny (.ref Ca) _) _ _ _
  refine nd_load hC ?_
  show wpAny _ _ (callAny.viaDunder (.ref Ca) _) _ _ _
  unfold callAny.viaDunder
  refine wpAny_bind (call.at ?_)
  dsimp only
  rw [tc_bind]
  refine wpAny_bind (wpAny_pure (wpAny_bind (wpAny_pure ?_)))
  refine wpAny_pure (a:=Fin.again (.call (.builtin "type.__call__") ⟨[.ref Ca,v],[]⟩)) (And.intro rfl ?_)
  refine codeAny_call_builtin_at (Code.quiet_builtin _ (by decide +kernel)) entry_typeCall (check_slot tc_kind tc_split typ (tc_args _ _ _) ?_)
  unfold Builtin.«type.__call__»
  have hm:Looks (model C.prog C.w) hp (mroOf (.ref Ca)) cd.mro:=((Looks.ld (part:=none) hC).andThen .now).andThen .now
  have hne:((Value.ref Ca:Value) == .type "type")=false:=rfl
  dsimp only
  rw [hne]
  refine wp_iteF rfl ?_
  refine wpAny_bind (hm.at ?_)
  refine wp_iteF e4 ?_
  refine wpAny_bind (made.at ?_)
  dsimp only
  obtain ⟨l,hrec,hl⟩:=any_some I.sm
  obtain ⟨r,el⟩:=head_of hl
  rw [el] at hrec
  clear hl el hne hm typ call made hC e4
  refine wpAny_bind (cls_bind X I.reads I.find (wpAny_call (sm_get (s:=⟨hp,gn,dr,t+1,os⟩) X hrec (handed_on rfl ?_))))
  refine wpAny_bind (wpAny_holding (wpAny_call ?_))
  refine fn_io (s:=⟨hp,gn,dr,t+1,os⟩) X0 I N nl g1 g2 g3 g4 hBC hB ct X base U.1 U.2 fun h4 x dx tk k le lt hdx hx=>?_
  have X4:C.K.In h4:=X.keeps k
  have t1:Looks (model C.prog C.w) h4 (typeOf (.ref x)) (.ref Ca):=(Looks.ld hx).andThen .now
  have s1:Looks (model C.prog C.w) h4 (isSubtype (.ref Ca) (.ref Ca)) true:=looks_subIn X4 I.self
  have i1:=looks_findIn (M:=model C.prog C.w) X4 hi
  have b1:=bind_fn (M:=model C.prog C.w) X4 (.ref x) hf
  clear X4 X hrec
  unfold isInstance callSpecial? specialOf
  repeat (first | with_reducible refine wpAny_call ?_ | lk)
  refine codeAny_mono (h h4 x dx tk k le lt hdx hx) fun r s' z=>?_
  rcases r with e | (v | _ | _ | _)<;>first | exact z | exact z.elim | skip
  obtain ⟨rfl,z⟩:=z
  exact wpAny_pure (wpAny_pure z)
theorem valIn_VR {W:Wd} {y:Value} {v:V} (e:valIn y=some v):VR W v y:=by
  cases y with
  | none=>cases e; exact .none
  | bool b=>cases e; exact .bool _
  | int i t=>cases e; exact .int _ _
  | str x t =>
    obtain ⟨h,rfl⟩:=iteSome e
    have:x=strV x.cps.toList:=by cases x; simp [strV]
    exact (congrArg (fun y=>VR W (V.str x.cps.toList) (.str y t)) this).mpr (.str _ t (Nat.le_trans h (by decide)))
  | _=>exact noSome e
theorem valsIn_VRs {W:Wd}:∀ {ys:List Value} {vs:List V},valsIn ys=some vs→VRs W vs ys
  | [],vs,e=>by cases e; exact .nil
  | y :: ys,vs,e=>by
    obtain ⟨a,e1,e⟩:=bindSome e
    obtain ⟨l,e2,e⟩:=bindSome e
    cases e
    exact .cons (valIn_VR e1) (valsIn_VRs e2)
theorem parSlots_length:∀ {pn:List Str} {ns:Names} {l:List Nat},parSlots ns pn=some l→l.length=pn.length
  | [],ns,l,e=>by cases e; rfl
  | x :: r,ns,l,e=>by
    obtain ⟨p,e1,e⟩:=bindSome e
    obtain ⟨_,e⟩:=iteO e
    obtain ⟨l',e2,rfl⟩:=Option.map_eq_some_iff.mp e
    exact congrArg (·+1) (parSlots_length e2)
theorem dflt_seq {K:Frag} {M:Model} {A:Around} {E:Value→Shared→Prop} {s:Shared} {v:Value} {ds:List Value} (X:K.In s.heap) (e:dfltRaw K v=some ds) {Q:Option (Array Value)→Shared→Prop} (h:∀ r,r.getD #[]=ds.toArray→Q r s):wpAny M A (seqItems? v) Q E s:=by
  cases v with
  | none =>
    cases e
    show wpAny M A (notAStandIn .none >>= fun _=>Pure.pure none) Q E s
    exact wpAny_bind (m:=notAStandIn .none) (wpAny_pure (wpAny_pure (h none rfl)))
  | ref t =>
    obtain ⟨o,ho,e⟩:=bindSome e
    obtain ⟨xs,ex,rfl⟩:=Option.map_eq_some_iff.mp e
    obtain ⟨n,en⟩:=dataSeq_of ex
    exact wpAny_seqItems (X _ _ ho) en (h _ (by simp))
  | _=>exact noSome e
structure FnOk (C:Cx) (N:Nm) (n:Nat) (a:Addr) (fn:Fn) (fd:FuncData) (body:List Stmt) (ds:List Value):Prop where
  isfd:fdIn C.K a=some fd
  is:FnIs C N n fn a fd (pnOf fd) body
  pars:plainPars fd.params=true
  nd:(pnOf fd).Nodup
  raw:dfltRaw C.K fd.defaults=some ds
  vals:valsIn ds=some fn.defaults
  len:fn.defaults.length ≤ fn.params.length
  plen:fn.params.length=(pnOf fd).length
theorem valsIn_length:∀ {ys:List Value} {vs:List V},valsIn ys=some vs→vs.length=ys.length:=fun e=>((valsIn_VRs (W:=⟨[],[]⟩) e).length).symm
theorem plainFd_spec {K:Frag} {fd:FuncData} (e:plainFd K fd=true):fd.scope.isCoroutine=false∧fd.scope.isGenerator=false∧fd.scope.kind=.function∧fd.closure=[]∧plainPars fd.params=true ∧
    fd.globals=mainGlobals∧fd.builtins=builtinsNs∧codeIn K fd.code fd.qualname=true∧noDup (fd.scope.names.map (·.1))=true∧noDup (pnOf fd)=true:=by
  obtain ⟨h1,e⟩:=and_of e
  obtain ⟨h2,e⟩:=and_of e
  obtain ⟨h3,e⟩:=and_of e
  obtain ⟨h4,e⟩:=and_of e
  obtain ⟨h5,e⟩:=and_of e
  obtain ⟨h6,e⟩:=and_of e
  obtain ⟨h7,e⟩:=and_of e
  obtain ⟨h8,e⟩:=and_of e
  obtain ⟨h9,h10⟩:=and_of e
  exact ⟨not_of h1,not_of h2,isFun_of h3,nil_of h4,h5,Nat.eq_of_beq_eq_true h6,Nat.eq_of_beq_eq_true h7,h8,h9,h10⟩
theorem fnIn_spec {C:Cx} {N:Nm} {n:Nat} {a:Addr} {fn:Fn} (e:fnIn C.K N n a=some fn):∃ fd body ds,FnOk C N n a fn fd body ds:=by
  obtain ⟨fd,hfd,e⟩:=bindSome e
  obtain ⟨body,hb,e⟩:=bindSome e
  obtain ⟨ps,h1,e⟩:=bindSome e
  obtain ⟨ds,h2,e⟩:=bindSome e
  obtain ⟨vs,h3,e⟩:=bindSome e
  obtain ⟨h,rfl⟩:=iteSome e
  obtain ⟨hp,h4⟩:=and_of h
  obtain ⟨p1,p2,p3,p4,p5,p6,p7,p8,p9,p10⟩:=plainFd_spec hp
  obtain ⟨oc,od,osl,ho⟩:=fdIn_spec hfd
  exact ⟨fd,body,ds,hfd,⟨⟨oc,od,osl,ho⟩,p8,bodySts_of hb,rfl,p1,p2,p3,p4,p6,p7,p9,rfl,rfl,h1⟩,p5,noDup_spec p10,h2,h3,Nat.le_of_ble_eq_true h4,parSlots_length h1⟩
theorem fn_bind {C:Cx} {N:Nm} {n:Nat} {a:Addr} {fn:Fn} {fd:FuncData} {body:List Stmt} {ds:List Value} (O:FnOk C N n a fn fd body ds) {W:Wd} {vs ws:List V} {xs:List Value} {s:Shared} (X:C.K.In s.heap) (hv:VRs W vs xs) (e:bindArgs fn vs=some ws) :
    ∃ ys,VRs W ws ys∧BindsTo s fd ⟨xs,[]⟩ ((pnOf fd).zip ys):=by
  obtain ⟨h,rfl⟩:=iteSome e
  obtain ⟨q1,q2⟩:=and_of h
  have q1:=of_decide_eq_true q1
  have q2:=of_decide_eq_true q2
  have hl:=hv.length
  have hd:=valsIn_length O.vals
  have hp:=O.plen
  have hlen:=O.len
  rw [← hl,hp] at q1 q2
  rw [hp] at hlen
  rw [hd] at q2 hlen
  refine ⟨xs++ds.drop (fn.defaults.length - (fn.params.length - vs.length)),hv.append ((valsIn_VRs O.vals).drop _),fun M A E Q q=>binds_pos O.pars O.nd (fun Q h=>dflt_seq X O.raw h) q1 q2 hlen ?_⟩
  rw [← hd,← hp,hl]
  exact q
set_option tactic.hygienic true in
theorem ns_nsIn {K:Frag} {h:Heap} {a:Addr} {m:Str→Option Value} {x:Str} {r:Option Value} (X:K.In h) (n:h.Ns a m) (e:nsIn K a x=some r):m x=r:=by
  unfold nsIn at e
  obtain ⟨o,es,ep,ho,hd,_,hf⟩:=n
  split at e
  · rename_i c d es' n' sl hk
    have:=X _ _ hk
    rw [ho] at this
    cases this
    cases hd
    have hx:=hf x
    unfold nsFind findBy at hx
    rw [← Array.find?_toList] at hx
    split at e
    · rename_i en he
      cases e
      rw [← hx,he]; rfl
    · rename_i he
      split at e
      · cases e
      · cases e
        rw [← hx,he]; rfl
  · cases e
noncomputable def argsB:List Arg→List Str→Bool
  | [],ns=>ns.isEmpty
  | a :: r,ns=>match ns with
    | []=>false
    | n :: ns=>a.arg == n&&argsB r ns
theorem argsB_cons {l:List Arg} {n:Str} {ns:List Str} (h:argsB l (n :: ns)=true):∃ e p r,l=⟨n,e,p⟩ :: r∧argsB r ns=true:=by
  cases l with
  | nil=>exact noTrue h
  | cons a r =>
    obtain ⟨h1,h2⟩:=and_of h
    obtain ⟨x,e,p⟩:=a
    cases (eq_of_beq h1:x=n)
    exact ⟨e,p,r,rfl,h2⟩
theorem argsB_nil {l:List Arg} (h:argsB l []=true):l=[]:=by
  cases l with
  | nil=>rfl
  | cons _ _=>exact noTrue h
noncomputable def kwPars (p:Arguments):Bool:=p.posonlyargs.isEmpty&&(argsB p.args ["self","instream","infile","posix","punctuation_chars"]&&plainPars p)
theorem kwPars_of {p:Arguments} (h:kwPars p=true):∃ a1 p1 a2 p2 a3 p3 a4 p4 a5 p5 kd dd,p=⟨[],[⟨"self",a1,p1⟩,⟨"instream",a2,p2⟩,⟨"infile",a3,p3⟩,⟨"posix",a4,p4⟩,⟨"punctuation_chars",a5,p5⟩],none,[],kd,none,dd⟩:=by
  obtain ⟨po,ar,va,ko,kd,ka,dd⟩:=p
  obtain ⟨h1,h⟩:=and_of h
  obtain ⟨h2,h3⟩:=and_of h
  obtain ⟨e1,e2,e3⟩:=plainPars_spec h3
  obtain ⟨a1,p1,r1,g1,h2⟩:=argsB_cons h2
  obtain ⟨a2,p2,r2,g2,h2⟩:=argsB_cons h2
  obtain ⟨a3,p3,r3,g3,h2⟩:=argsB_cons h2
  obtain ⟨a4,p4,r4,g4,h2⟩:=argsB_cons h2
  obtain ⟨a5,p5,r5,g5,h2⟩:=argsB_cons h2
  refine ⟨a1,p1,a2,p2,a3,p3,a4,p4,a5,p5,kd,dd,?_⟩
  rw [argsB_nil h2] at g5
  rw [g5] at g4
  rw [g4] at g3
  rw [g3] at g2
  rw [g2] at g1
  rw [show po=[] from nil_of h1,show ar=_ from g1,show va=none from e1,show ko=[] from e2,show ka=none from e3]
theorem raw4_of {K:Frag} {v d0 d1 d2 d3:Value} (hd:dfltRaw K v=some [d0,d1,d2,d3]):∃ t o n,v=.ref t∧K.lookup t=some o∧o.data=.seq #[d0,d1,d2,d3] n:=by
  cases v with
  | ref t =>
    obtain ⟨o,ho,e⟩:=bindSome hd
    obtain ⟨xs,ex,e⟩:=Option.map_eq_some_iff.mp e
    obtain ⟨n,en⟩:=dataSeq_of ex
    exact ⟨t,o,n,rfl,ho,by rw [en,← e]⟩
  | none=>cases hd
  | _=>exact noSome hd
theorem kw_bind {n1 n2:Str} {a1 a2 a3 a4 a5:Option Expr} {p1 p2 p3 p4 p5:Pos} {kd:List (Option Expr)} {dd:List Expr} {fb:FuncBody} {sc:Scope} {gl bi t:Addr} {cl:List (Str × Addr)} {kw doc pm cd ct x0 x1 xa xb d0 d1 d2 d3:Value} {an:Option Addr} {s:Shared} {o:Obj} {n:Nat} (ho:s.heap.get? t=some o) (hd:o.data=.seq #[d0,d1,d2,d3] n) :
    BindsTo s ⟨n1,n2,⟨[],[⟨"self",a1,p1⟩,⟨"instream",a2,p2⟩,⟨"infile",a3,p3⟩,⟨"posix",a4,p4⟩,⟨"punctuation_chars",a5,p5⟩],none,[],kd,none,dd⟩,fb,sc,gl,cl,.ref t,kw,doc,pm,an,cd,ct,bi⟩ ⟨[x0,x1],[("posix",xa),("punctuation_chars",xb)]⟩ ([("self":Str),("instream":Str),("infile":Str),("posix":Str),("punctuation_chars":Str)].zip [x0,x1,d1,xa,xb]) :=
  BindsTo.of_defaults rfl ho hd rfl rfl
theorem binds_kw {K:Frag} {s:Shared} {fd:FuncData} {x0 x1 xa xb d0 d1 d2 d3:Value} (X:K.In s.heap) (hp:kwPars fd.params=true) (hd:dfltRaw K fd.defaults=some [d0,d1,d2,d3]) :
    BindsTo s fd ⟨[x0,x1],[("posix",xa),("punctuation_chars",xb)]⟩ ((pnOf fd).zip [x0,x1,d1,xa,xb]):=by
  obtain ⟨a1,p1,a2,p2,a3,p3,a4,p4,a5,p5,kd,dd,e⟩:=kwPars_of hp
  obtain ⟨t,o,n,et,ho,en⟩:=raw4_of hd
  clear hp hd
  obtain ⟨n1,n2,ps,fb,sc,gl,cl,df,kw,doc,pm,an,cd,ct,bi⟩:=fd
  rw [show ps=_ from e,show df=.ref t from et]
  exact kw_bind (X _ _ ho) en
noncomputable def refOf:Value→Option Addr
  | .ref a=>some a
  | _=>none
theorem refOf_of {v:Value} {a:Addr} (h:refOf v=some a):v=.ref a:=by
  cases v with
  | ref b=>exact congrArg Value.ref (Option.some.inj h)
  | _=>exact noSome h
noncomputable def fnsAt (K:Frag) (ad:Nat→Option Addr):Fns:=⟨ad,fun g=>(ad g).bind (fdIn K),fun g=>match (ad g).bind (fdIn K) with | some fd=>pnOf fd | none=>[]⟩
noncomputable def ownB (K:Frag) (Ca:Addr) (x:Str):Bool :=
  plainGet K Ca x&&(hasDictIn K Ca&&((findIn K (.ref Ca) x).any (noGet K)&&((findIn K (.ref Ca) "__setattr__" == some (some (.builtin "object.__setattr__")))&&(plainOver K Ca&&(takerIn K Ca x == some none)))))
noncomputable def methB (K:Frag) (T:Tab) (ad:Nat→Option Addr) (Ca:Addr) (x:Str) (g:Nat):Bool :=
  (T.fns g).isSome&&(ad g).any fun fa=>plainGet K Ca x&&((findIn K (.ref Ca) x == some (some (.ref fa)))&&(typeIn K (.ref fa) == some (.type "function")))
noncomputable def propF (K:Frag) (Ca:Addr) (x:Str) (fa p:Addr):Bool :=
  plainGet K Ca x&&(hasDictIn K Ca&&((specialIn K (.ref p) "__get__" == some (some (.builtin "property.__get__")))&&((takesIn K (.ref p) == some true)&&(recIn K p "property").any fun l=>l.head? == some (.ref fa))))
noncomputable def propB (K:Frag) (T:Tab) (ad:Nat→Option Addr) (Ca:Addr) (x:Str) (g:Nat):Bool :=
  (T.fns g).isSome&&(ad g).any fun fa=>(findIn K (.ref Ca) x).any fun o=>(o.bind refOf).any (propF K Ca x fa)
noncomputable def attrB (K:Frag) (T:Tab) (ad:Nat→Option Addr) (c:Nat) (Ca:Addr) (a:Nat) (x:Str):Bool :=
  ((T.prop c a).isSome || ((T.meth c a).isSome || ownB K Ca x))&&((T.meth c a).all (methB K T ad Ca x)&&(T.prop c a).all (propB K T ad Ca x))
noncomputable def allAt {α:Type} (f:Nat→α→Bool):Nat→List α→Bool
  | _,[]=>true
  | k,x :: r=>f k x&&allAt f (k+1) r
theorem allAt_spec {α:Type} {f:Nat→α→Bool} {x:α} (l:List α):∀ {k a:Nat},allAt f k l=true→l[a]?=some x→f (k+a) x=true:=by
  induction l with
  | nil=>exact fun _ e=>noSome e
  | cons y r ih =>
    intro k a h e
    cases a with
    | zero =>
      have e:y=x:=Option.some.inj e
      rw [← e]
      exact (and_of h).1
    | succ a =>
      have:=ih (and_of h).2 e
      rw [Nat.add_right_comm] at this
      exact this
noncomputable def globF (K:Frag) (T:Tab) (ad:Nat→Option Addr) (fns:List Str) (k:Nat) (x:Str):Bool :=
  (posOf x fns 0).all fun g=>!(Nat.beq g k) || ((T.fns g).isSome&&(ad g).any fun a=>nsIn K mainGlobals x == some (some (.ref a)))
theorem allOf {α:Type} {o:Option α} {p:α→Bool} {a:α} (h:o.all p=true) (e:o=some a):p a=true:=by
  rw [e] at h; exact h
theorem globF_spec {K:Frag} {T:Tab} {ad:Nat→Option Addr} {fns:List Str} {k:Nat} {x:Str} (h:globF K T ad fns k x=true) (p:posOf x fns 0=some k):(T.fns k).isSome=true∧∃ a,ad k=some a∧nsIn K mainGlobals x=some (some (.ref a)):=by
  have h:=allOf h p
  rw [Nat.beq_refl] at h
  obtain ⟨h1,h2⟩:=and_of h
  obtain ⟨a,ea,h3⟩:=anyOf h2
  exact ⟨h1,a,ea,eq_of_beq h3⟩
noncomputable def freeNames:List Str:=["len","abs","sum","int","str","type","range","isinstance","dict","bool","ValueError","object"]
noncomputable def freeB (K:Frag):Bool:=freeNames.all fun x=>nsIn K mainGlobals x == some none
structure LayOk (C:Cx) (N:Nm) (n:Nat) (T:Tab) (ad:Nat→Option Addr) (CL CS B p fN fL fS:Addr) (fdN:FuncData) (bodyN:List Stmt):Prop where
  nm:C.nm=N.an
  cn:N.cn=[("shlex":Str),("StringIO":Str)]
  nd:noDup N.an=true
  hd:T.hd=false
  fn:∀ g fn,T.fns g=some fn→∃ a,ad g=some a∧fnIn C.K N n a=some fn∧keepIn C.K (.ref a)=true
  cls:∀ c Ca,C.cls c=some Ca→(c=0∧Ca=CL) ∨ (c=1∧Ca=CS)
  c0:C.cls 0=some CL
  c1:C.cls 1=some CS
  a0:allAt (attrB C.K T ad 0 CL) 0 N.an=true
  a1:allAt (attrB C.K T ad 1 CS) 0 N.an=true
  glob:allAt (globF C.K T ad N.fn) 0 N.fn=true
  free:freeB C.K=true
  deq:nsIn C.K mainGlobals "deque"=some (some (.type "collections.deque"))
  gL:nsIn C.K mainGlobals "shlex"=some (some (.ref CL))
  gS:nsIn C.K mainGlobals "StringIO"=some (some (.ref CS))
  gB:nsIn C.K mainGlobals "BytesIO"=some (some (.ref B))
  i0:∀ g fn,T.init 0=some g→T.fns g=some fn→ad g=some fL∧fn.params.length=5
  i1:∀ g fn,T.init 1=some g→T.fns g=some fn→ad g=some fS∧fn.params.length=3∧fn.defaults.length=2
  kL:keepIn C.K (.ref CL)=true
  kS:keepIn C.K (.ref CS)=true
  mL:makesIn C.K CL=true
  fiL:findIn C.K (.ref CL) "__init__"=some (some (.ref fL))
  tfL:typeIn C.K (.ref fL)=some (.type "function")
  fiS:findIn C.K (.ref CS) "__init__"=some (some (.ref fS))
  tfS:typeIn C.K (.ref fS)=some (.type "function")
  kw:(fdIn C.K fL).any (fun fd=>kwPars fd.params&&(dfltRaw C.K fd.defaults).any fun l=>l.length == 4)=true
  io:IoCls C.K CS p fN
  ion:IoFn C.K fN fdN bodyN
  bS:(CS == B)=false
  bIn:(C.K.lookup B).isSome=true
  tS:typeIn C.K (.ref CS)=some (.type "type")
section
variable {C:Cx} {N:Nm} {n:Nat} {T:Tab} {ad:Nat→Option Addr} {CL CS B p fN fL fS:Addr} {fdN:FuncData} {bodyN:List Stmt}
inductive FnHas (C:Cx) (N:Nm) (n:Nat) (ad:Nat→Option Addr) (g:Nat) (fn:Fn):Prop
  | mk (a:Addr) (fd:FuncData) (body:List Stmt) (ds:List Value) (h1:ad g=some a) (h2:(fnsAt C.K ad).fd g=some fd) (h3:(fnsAt C.K ad).pn g=pnOf fd) (h4:keepIn C.K (.ref a)=true) (O:FnOk C N n a fn fd body ds):FnHas C N n ad g fn
theorem LayOk.fnOk (L:LayOk C N n T ad CL CS B p fN fL fS fdN bodyN) {g:Nat} {fn:Fn} (e:T.fns g=some fn):FnHas C N n ad g fn:=by
  obtain ⟨a,h1,h2,h3⟩:=L.fn g fn e
  obtain ⟨fd,body,ds,O⟩:=fnIn_spec h2
  have hfd:(fnsAt C.K ad).fd g=some fd:=by show (ad g).bind (fdIn C.K)=_; rw [h1]; exact O.isfd
  refine ⟨a,fd,body,ds,h1,hfd,?_,h3,O⟩
  show (match (ad g).bind (fdIn C.K) with | some fd=>pnOf fd | none=>[])=_
  have:(ad g).bind (fdIn C.K)=some fd:=hfd
  rw [this]
theorem LayOk.at (L:LayOk C N n T ad CL CS B p fN fL fS fdN bodyN) {c Ca a:Nat} {x:Str} (e1:C.cls c=some Ca) (e2:C.nm[a]?=some x):attrB C.K T ad c Ca a x=true:=by
  rw [L.nm] at e2
  have h0:=allAt_spec _ L.a0 e2
  have h1:=allAt_spec _ L.a1 e2
  rw [Nat.zero_add] at h0 h1
  rcases L.cls c Ca e1 with ⟨i,j⟩ | ⟨i,j⟩
  · rw [i,j]; exact h0
  · rw [i,j]; exact h1
theorem ownB_of {K:Frag} {Ca:Addr} {x:Str} (h:ownB K Ca x=true):plainGet K Ca x=true∧hasDictIn K Ca=true∧(∃ attr,findIn K (.ref Ca) x=some attr∧noGet K attr=true) ∧
    findIn K (.ref Ca) "__setattr__"=some (some (.builtin "object.__setattr__"))∧plainOver K Ca=true∧takerIn K Ca x=some none:=by
  obtain ⟨h1,h⟩:=and_of h
  obtain ⟨h2,h⟩:=and_of h
  obtain ⟨h3,h⟩:=and_of h
  obtain ⟨h4,h⟩:=and_of h
  obtain ⟨h5,h6⟩:=and_of h
  exact ⟨h1,h2,anyOf h3,eq_of_beq h4,h5,eq_of_beq h6⟩
theorem methB_of {K:Frag} {T:Tab} {ad:Nat→Option Addr} {Ca:Addr} {x:Str} {g:Nat} (h:methB K T ad Ca x g=true):(T.fns g).isSome=true∧∃ fa,ad g=some fa∧plainGet K Ca x=true∧findIn K (.ref Ca) x=some (some (.ref fa))∧typeIn K (.ref fa)=some (.type "function"):=by
  obtain ⟨h1,h⟩:=and_of h
  obtain ⟨fa,e,h⟩:=anyOf h
  obtain ⟨h2,h⟩:=and_of h
  obtain ⟨h3,h4⟩:=and_of h
  exact ⟨h1,fa,e,h2,eq_of_beq h3,eq_of_beq h4⟩
theorem propB_of {K:Frag} {T:Tab} {ad:Nat→Option Addr} {Ca:Addr} {x:Str} {g:Nat} (h:propB K T ad Ca x g=true):(T.fns g).isSome=true∧∃ p fa rest,ad g=some fa∧plainGet K Ca x=true∧hasDictIn K Ca=true∧findIn K (.ref Ca) x=some (some (.ref p)) ∧
    specialIn K (.ref p) "__get__"=some (some (.builtin "property.__get__"))∧takesIn K (.ref p)=some true∧recIn K p "property"=some (.ref fa :: rest):=by
  obtain ⟨h1,h⟩:=and_of h
  obtain ⟨fa,e,h⟩:=anyOf h
  obtain ⟨o,e2,h⟩:=anyOf h
  obtain ⟨p,e3,h⟩:=anyOf h
  obtain ⟨v,e4,e5⟩:=bindSome e3
  obtain ⟨h2,h⟩:=and_of h
  obtain ⟨h3,h⟩:=and_of h
  obtain ⟨h4,h⟩:=and_of h
  obtain ⟨h5,h6⟩:=and_of h
  obtain ⟨l,e6,h7⟩:=anyOf h6
  obtain ⟨r,e7⟩:=head_of h7
  exact ⟨h1,p,fa,r,e,h2,h3,by rw [e2,e4,refOf_of e5],eq_of_beq h4,eq_of_beq h5,e6.trans (congrArg some e7)⟩
theorem LayOk.tab (L:LayOk C N n T ad CL CS B p fN fL fS fdN bodyN):TabOk C T (fnsAt C.K ad) where
  nd:=by rw [L.nm]; exact noDup_spec L.nd
  fv g fn e:=by
    obtain ⟨a,fd,body,ds,h1,h2,h3,h4,O⟩:=L.fnOk e
    exact ⟨a,fd,h1,h2,h4⟩
  bind g fn fd e1 e2 W vs xs s ws X hv hw:=by
    obtain ⟨a,fd',body,ds,h1,h2,h3,h4,O⟩:=L.fnOk e1
    rw [Option.some.inj (e2.symm.trans h2),h3]
    exact fn_bind O X hv hw
  own c Ca a x e1 e2 e3 e4:=by
    have h:=(and_of (L.at e1 e2)).1
    rw [e3,e4] at h
    exact ownB_of h
  meth c Ca a x g e1 e2 e3:=methB_of (allOf (and_of (and_of (L.at e1 e2)).2).1 e3)
  prop c Ca a x g e1 e2 e3:=propB_of (allOf (and_of (and_of (L.at e1 e2)).2).2 e3)
end
theorem bb_len:bootBuiltins "len"=some (.builtin "len"):=by kernel_rfl
theorem bb_int:bootBuiltins "int"=some (.type "int"):=by kernel_rfl
theorem bb_str:bootBuiltins "str"=some (.type "str"):=by kernel_rfl
theorem bb_bool:bootBuiltins "bool"=some (.type "bool"):=by kernel_rfl
theorem bb_type:bootBuiltins "type"=some (.type "type"):=by kernel_rfl
theorem bb_range:bootBuiltins "range"=some (.type "range"):=by kernel_rfl
theorem bb_isi:bootBuiltins "isinstance"=some (.builtin "isinstance"):=by kernel_rfl
theorem bb_dict:bootBuiltins "dict"=some (.type "dict"):=by kernel_rfl
theorem bb_exc:bootBuiltins "ValueError"=some (.type "ValueError"):=by kernel_rfl
theorem bb_object:bootBuiltins "object"=some (.type "object"):=by kernel_rfl
section
variable {C:Cx} {N:Nm} {n:Nat} {T:Tab} {ad:Nat→Option Addr} {CL CS B p fN fL fS:Addr} {fdN:FuncData} {bodyN:List Stmt}
theorem LayOk.noName (L:LayOk C N n T ad CL CS B p fN fL fS fdN bodyN) (X:CxOk C) {x:Str} (h:x ∈ freeNames):C.mg x=none :=
  ns_nsIn X.kin X.g (eq_of_beq (List.all_eq_true.mp L.free x h))
theorem LayOk.freeAt (L:LayOk C N n T ad CL CS B p fN fL fS fdN bodyN) (X:CxOk C) (hb:∀ x:Str,x ≠ "__name__"→C.mb x=bootBuiltins x) {y x:Str} {v:Value} (h3:bootBuiltins x=some v) (h1:x ∈ freeNames) (h2:x ≠ "__name__") (h:(y == x)=true):C.mg y=none∧C.mb y=some v:=by
  rw [eq_of_beq h]
  exact ⟨L.noName X h1,(hb _ h2).trans h3⟩
theorem iteOr {α:Type} {c:Bool} {a y:α} {r:Option α} {P:α→Prop} (h1:c=true→P a) (h2:r=some y→P y) (h:(if c=true then some a else r)=some y):P y:=by
  cases c with
  | true=>rw [← Option.some.inj h]; exact h1 rfl
  | false=>exact h2 h
theorem LayOk.globOk (L:LayOk C N n T ad CL CS B p fN fL fS fdN bodyN) (X:CxOk C) (hb:∀ x:Str,x ≠ "__name__"→C.mb x=bootBuiltins x):GlobOk C N T (fnsAt C.K ad):=by
  have free:∀ {y x:Str} {v:Value},bootBuiltins x=some v→x ∈ freeNames→x ≠ "__name__"→(y == x)=true→C.mg y=none∧C.mb y=some v:=L.freeAt X hb
  refine ⟨?_,fun x b=>?_,free bb_isi (by decide) (by decide) (beq_self_eq_true _),free bb_str (by decide) (by decide) (beq_self_eq_true _),free bb_dict (by decide) (by decide) (beq_self_eq_true _),ns_nsIn X.kin X.g L.deq,fun x t=>?_,free bb_exc (by decide) (by decide) (beq_self_eq_true _)⟩
  · intro x g hx
    have h2:=(posOf_spec _ _ _ hx).2
    rw [Nat.sub_zero] at h2
    have h:=allAt_spec _ L.glob h2
    rw [Nat.zero_add] at h
    obtain ⟨q1,a,q2,q3⟩:=globF_spec h hx
    obtain ⟨fn,hfn⟩:=Option.isSome_iff_exists.mp q1
    exact ⟨fn,a,hfn,q2,ns_nsIn X.kin X.g q3⟩
  · exact iteOr (P:=fun b=>C.mg x=none∧C.mb x=some (biVal b)) (free bb_len (by decide) (by decide)) <|
      iteOr (P:=fun b=>C.mg x=none∧C.mb x=some (biVal b)) (free bb_int (by decide) (by decide)) <| iteOr (P:=fun b=>C.mg x=none∧C.mb x=some (biVal b)) (free bb_str (by decide) (by decide)) <|
      iteOr (P:=fun b=>C.mg x=none∧C.mb x=some (biVal b)) (free bb_type (by decide) (by decide)) <| iteOr (P:=fun b=>C.mg x=none∧C.mb x=some (biVal b)) (free bb_range (by decide) (by decide)) fun h=>noSome h
  · exact iteOr (P:=fun t=>C.mg x=none∧C.mb x=some (.type (typName t))) (free bb_int (by decide) (by decide)) <| iteOr (P:=fun t=>C.mg x=none∧C.mb x=some (.type (typName t))) (free bb_bool (by decide) (by decide)) <|
      iteOr (P:=fun t=>C.mg x=none∧C.mb x=some (.type (typName t))) (free bb_str (by decide) (by decide)) fun h=>noSome h
theorem listS {α:Type} {l:List α} {n:Nat} (h:l.length=n+1):∃ a r,l=a :: r∧r.length=n:=by
  cases l with
  | nil=>exact nomatch h
  | cons a r=>exact ⟨a,r,rfl,Nat.succ.inj h⟩
theorem list0 {α:Type} {l:List α} (h:l.length=0):l=[]:=List.eq_nil_of_length_eq_zero h
theorem list1 {α:Type} {l:List α} (h:l.length=1):∃ a,l=[a]:=by
  obtain ⟨a,r,e,h⟩:=listS h
  exact ⟨a,e.trans (congrArg (a :: ·) (list0 h))⟩
theorem list2 {α:Type} {l:List α} (h:l.length=2):∃ a b,l=[a,b]:=by
  obtain ⟨a,r,e,h⟩:=listS h
  obtain ⟨b,h⟩:=list1 h
  exact ⟨a,b,e.trans (congrArg (a :: ·) h)⟩
theorem list3 {α:Type} {l:List α} (h:l.length=3):∃ a b c,l=[a,b,c]:=by
  obtain ⟨a,r,e,h⟩:=listS h
  obtain ⟨b,c,h⟩:=list2 h
  exact ⟨a,b,c,e.trans (congrArg (a :: ·) h)⟩
theorem list4 {α:Type} {l:List α} (h:l.length=4):∃ a b c d,l=[a,b,c,d]:=by
  obtain ⟨a,r,e,h⟩:=listS h
  obtain ⟨b,c,d,h⟩:=list3 h
  exact ⟨a,b,c,d,e.trans (congrArg (a :: ·) h)⟩
theorem VRs.inv {W:Wd} {v:V} {vs:List V} {xs:List Value} (h:VRs W (v :: vs) xs):∃ y ys,xs=y :: ys∧VR W v y∧VRs W vs ys:=by
  cases h with
  | cons a b=>exact ⟨_,_,rfl,a,b⟩
theorem VRs.inv0 {W:Wd} {xs:List Value} (h:VRs W [] xs):xs=[]:=by
  cases h; rfl
theorem nameOf_at {x y:Str} {l:List Str} {i:Nat} (h:posOf x l 0=some i) (e:l[i]?=some y):x=y:=by
  have h2:=(posOf_spec _ _ _ h).2
  rw [Nat.sub_zero,e] at h2
  exact (Option.some.inj h2).symm
theorem bindS {fn:Fn} {v0 v1 d0 d1:V} (i2:fn.params.length=3) (hd:fn.defaults=[d0,d1]):bindArgs fn [v0,v1]=some [v0,v1,d1]:=by
  unfold bindArgs
  rw [hd,i2]
  rfl
theorem bindS3 {fn:Fn} {v0 v1 v2 d0 d1:V} (i2:fn.params.length=3) (hd:fn.defaults=[d0,d1]):bindArgs fn [v0,v1,v2]=some [v0,v1,v2]:=by
  unfold bindArgs
  rw [hd,i2]
  rfl
theorem bindL {fn:Fn} {v0 v1 v2 v3 v4 d0 d1 d2 d3:V} (i2:fn.params.length=5) (hd:fn.defaults=[d0,d1,d2,d3]):bindArgs fn [v0,v1,v2,v3,v4]=some [v0,v1,v2,v3,v4]:=by
  unfold bindArgs
  rw [hd,i2]
  rfl
theorem newS_args {a:Addr} {fn:Fn} {fd:FuncData} {body:List Stmt} {ds:List Value} (O:FnOk C N n a fn fd body ds) (i2:fn.params.length=3) (i3:fn.defaults.length=2) {pn:List Str} (h3:pn=pnOf fd)
    (W:Wd) (vs:List V) (xs:List Value) (s:Shared) (v0:V) (x0:Value) (Xs:C.K.In s.heap) (hv:VRs W vs xs) (hv0:VR W v0 x0) (hl:vs.length=1+([]:List Nat).length) :
      ∃ ys,VRs W (v0 :: (initArgs (fn.params.length - 1) fn.defaults vs []).filterMap id) ys∧bindArgs fn (v0 :: (initArgs (fn.params.length - 1) fn.defaults vs []).filterMap id)=some (v0 :: (initArgs (fn.params.length - 1) fn.defaults vs []).filterMap id) ∧
      BindsTo s fd ⟨x0 :: xs.take 1,([]:List Str).zip (xs.drop 1)⟩ (pn.zip ys):=by
  obtain ⟨v1,rfl⟩:=list1 hl
  obtain ⟨d0,d1,hd⟩:=list2 i3
  have hini:(initArgs (fn.params.length - 1) fn.defaults [v1] []).filterMap id=[v1,d1]:=by rw [i2,hd]; rfl
  rw [hini,h3,bindS3 i2 hd]
  obtain ⟨x1,xs1,rfl,q1,hv⟩:=hv.inv
  rw [hv.inv0]
  obtain ⟨ys,y1,y2⟩:=fn_bind O Xs (.cons hv0 (.cons q1 .nil)) (bindS i2 hd)
  exact ⟨ys,y1,rfl,y2⟩
theorem LayOk.newS (L:LayOk C N n T ad CL CS B p fN fL fS fdN bodyN) (X:CxOk C) (hb:∀ x:Str,x ≠ "__name__"→C.mb x=bootBuiltins x) (nl:C.h₀.NoLimit) (x:Str) (hx:posOf x N.cn 0=some 1) :
    ∃ Ca,C.mg x=some (.ref Ca)∧NewOk C T (fnsAt C.K ad) Ca 1 [] [] 1:=by
  rw [nameOf_at (y:="StringIO") hx (by rw [L.cn]; rfl)]
  refine ⟨CS,ns_nsIn X.kin X.g L.gS,L.c1,keepOk_in L.kS,?_⟩
  intro g fn e1 e2
  obtain ⟨a,fd,body,ds,h1,h2,h3,h4,O⟩:=L.fnOk e2
  have i:=L.i1 g fn e1 e2
  exact ⟨fS,fd,i.1,h2,newSat_io X L.io L.ion nl (ns_nsIn X.kin X.g L.gB) (ns_nsIn X.kin X.g L.gS) (L.noName X (by decide)) (by rw [hb _ (by decide)]; exact bb_object) L.bS L.bIn L.tS L.fiS L.tfS,
    fun W vs xs s v0 x0 Xs hv hv0 hl _=>newS_args O i.2.1 i.2.2 h3 W vs xs s v0 x0 Xs hv hv0 hl⟩
theorem newL_args {a:Addr} {fn:Fn} {fd:FuncData} {body:List Stmt} {ds:List Value} (O:FnOk C N n a fn fd body ds) (i2:fn.params.length=5) (hk1:kwPars fd.params=true) (hk3:ds.length=4) {pn:List Str} (h3:pn=pnOf fd)
    (W:Wd) (vs:List V) (xs:List Value) (s:Shared) (v0:V) (x0:Value) (Xs:C.K.In s.heap) (hv:VRs W vs xs) (hv0:VR W v0 x0) (hl:vs.length=1+[2,3].length) :
      ∃ ys,VRs W (v0 :: (initArgs (fn.params.length - 1) fn.defaults vs [2,3]).filterMap id) ys∧bindArgs fn (v0 :: (initArgs (fn.params.length - 1) fn.defaults vs [2,3]).filterMap id)=some (v0 :: (initArgs (fn.params.length - 1) fn.defaults vs [2,3]).filterMap id) ∧
      BindsTo s fd ⟨x0 :: xs.take 1,(["posix","punctuation_chars"]:List Str).zip (xs.drop 1)⟩ (pn.zip ys):=by
  obtain ⟨y0,y1,y2,y3,hy⟩:=list4 hk3
  have hraw:=O.raw
  have hvals:=O.vals
  rw [hy] at hraw hvals
  clear hy hk3 O
  obtain ⟨d0,d1,d2,d3,hd⟩:=list4 (valsIn_length hvals)
  rw [hd] at hvals
  obtain ⟨v1,va,vb,rfl⟩:=list3 hl
  have hini:(initArgs (fn.params.length - 1) fn.defaults [v1,va,vb] [2,3]).filterMap id=[v1,d1,va,vb]:=by rw [i2,hd]; rfl
  rw [hini,h3,bindL i2 hd]
  clear hini h3 hl
  obtain ⟨x1,xs1,rfl,q1,hv⟩:=hv.inv
  obtain ⟨x2,xs2,rfl,q2,hv⟩:=hv.inv
  obtain ⟨x3,xs3,rfl,q3,hv⟩:=hv.inv
  rw [hv.inv0]
  obtain ⟨z,z1,z2⟩:=(valsIn_VRs (W:=W) hvals).get (i:=1) (v:=d1) rfl
  rw [← Option.some.inj z1] at z2
  exact ⟨_,.cons hv0 (.cons q1 (.cons z2 (.cons q2 (.cons q3 .nil)))),rfl,binds_kw Xs hk1 hraw⟩
theorem LayOk.newL (L:LayOk C N n T ad CL CS B p fN fL fS fdN bodyN) (X:CxOk C) (x:Str) (hx:posOf x N.cn 0=some 0) :
    ∃ Ca,C.mg x=some (.ref Ca)∧NewOk C T (fnsAt C.K ad) Ca 0 [2,3] ["posix","punctuation_chars"] 1:=by
  rw [nameOf_at (y:="shlex") hx (by rw [L.cn]; rfl)]
  refine ⟨CL,ns_nsIn X.kin X.g L.gL,L.c0,keepOk_in L.kL,?_⟩
  intro g fn e1 e2
  obtain ⟨a,fd,body,ds,h1,h2,h3,h4,O⟩:=L.fnOk e2
  have i:=L.i0 g fn e1 e2
  have hk:=L.kw
  rw [← Option.some.inj (h1.symm.trans i.1),O.isfd] at hk
  have hk:=and_of hk
  have hk3:ds.length=4:=by
    have e:((some ds).any fun l=>l.length == 4)=true:=O.raw ▸ hk.2
    exact eq_of_beq e
  exact ⟨fL,fd,i.1,h2,newSat_plain L.mL L.fiL L.tfL,fun W vs xs s v0 x0 Xs hv hv0 hl _=>newL_args O i.2 hk.1 hk3 h3 W vs xs s v0 x0 Xs hv hv0 hl⟩
theorem LayOk.fnsIs (L:LayOk C N n T ad CL CS B p fN fL fS fdN bodyN) (nl:C.h₀.NoLimit):FnsIs C N n T (fnsAt C.K ad) where
  nl:=nl
  fn g fn fa fd e1 e2 e3:=by
    obtain ⟨a,fd',body,ds,h1,h2,h3,h4,O⟩:=L.fnOk e1
    have e2:ad g=some fa:=e2
    rw [h1] at e2
    cases e2
    rw [h2] at e3
    cases e3
    rw [h3]
    exact ⟨body,O.is⟩
theorem LayOk.run (L:LayOk C N n T ad CL CS B p fN fL fS fdN bodyN) (X:CxOk C) (hb:∀ x:Str,x ≠ "__name__"→C.mb x=bootBuiltins x) (nl:C.h₀.NoLimit) (K d:Nat):FnSat C T (callF T K d) (fnsAt C.K ad) d :=
  mainF X L.tab (L.globOk X hb) L.nm (L.newS X hb nl) (L.newL X) (L.fnsIs nl) L.hd d
end
theorem well_ints {P:Params} {h:Heap} {W:Wd}:∀ {is:List Int} {vs:List Value},WellAll P h vs (ofPys (is.map PyData.int))→VRs W (is.map V.int) vs
  | [],vs,e=>by cases e; exact .nil
  | i :: is,vs,e=>by
    cases e with
    | cons a b =>
      cases a
      exact .cons (.int _ _) (well_ints b)
theorem well_list {P:Params} {h:Heap} {a:Addr} {is:List Int} (e:Well P h (.ref a) (ofPy (PyData.list (is.map PyData.int)))):∃ xs:List Value,h.get? a=some (lstOf xs 0)∧∀ W,VRs W (is.map V.int) xs:=by
  have e:Well P h (.ref a) (.list (ofPys (is.map PyData.int))):=e
  cases e with
  | list g q=>exact ⟨_,g,fun W=>well_ints q⟩
section
variable {C:Cx} {N:Nm} {n:Nat} {T:Tab} {ad:Nat→Option Addr} {CL CS B p fN fL fS:Addr} {fdN:FuncData} {bodyN:List Stmt}
theorem law_top (L:LayOk C N n T ad CL CS B p fN fL fS fdN bodyN) (X:CxOk C) (hb:∀ x:Str,x ≠ "__name__"→C.mb x=bootBuiltins x) (nl:C.h₀.NoLimit) {K d g:Nat} {fn:Fn} {fa:Addr} (hg:T.fns g=some fn) (ha:ad g=some fa)
    {is:List Int} (hlaw:callF T K d g [.lst (is.map .int)] []=.ok (.bool true) []) {A:Around} (hA:AOk A d) (hh:A.handled=none) (hfr:A.frames=some []) {s:Shared} (hs:C.h₀=s.heap) {l:Addr} {xs:List Value} (ho:s.heap.get? l=some (lstOf xs 0))
    (hx:∀ W,VRs W (is.map V.int) xs) (hlen:is.length ≤ lim) {R:Result→Shared→Prop} (q:∀ h' tk,(∀ b o,s.heap.get? b=some o→h'.get? b=some o)→R (.ok (.ret (.bool true))) { s with heap:=h',toks:=tk }) :
    codeAny (model C.prog C.w) A (.call (.ref fa) ⟨[.ref l],[]⟩) R s:=by
  obtain ⟨a,fd,body,ds,h1,h2,h3,h4,O⟩:=L.fnOk hg
  rw [ha] at h1
  cases h1
  have H:HR C [] ⟨[],[(l,lstOf xs 0)]⟩ [] s.heap:=by
    refine ⟨fun b o e=>by rw [hs] at e; exact e,?_,rfl,?_,?_,?_,?_⟩
    · intro pp m
      simp at m
      subst m
      exact ho
    · intro i o a e
      simp at e
    · intro f m; simp at m
    · exact List.nodup_nil
    · intro a m; simp at m
  have hv:VRs ⟨[],[(l,lstOf xs 0)]⟩ [V.lst (is.map .int)] [.ref l]:=.cons (.lst _ _ xs 0 (.head _) (hx _) (by simpa using hlen)) .nil
  have key:=L.run X hb nl K d g fn fa fd hg ha h2 A [] ⟨[],[(l,lstOf xs 0)]⟩ [] s [V.lst (is.map .int)] ⟨[.ref l],[]⟩ hA (.inl hh) hfr H (fun ws hw=>L.tab.bind g fn fd hg h2 _ _ _ s ws (by rw [← hs]; exact X.kin) hv hw) (by rw [hlaw]; exact fun q=>nomatch q)
  refine codeAny_mono key fun r s' hr=>?_
  rw [hlaw] at hr
  cases r with
  | error e =>
    obtain ⟨m,o2,W3,b,e,_⟩:=hr
    cases e
  | ok fl =>
    cases fl with
    | ret v =>
      obtain ⟨v',o2,W3,e,le3,H3,q3,sm⟩:=hr
      cases e
      cases q3
      obtain ⟨h',g',d',t',os'⟩:=s'
      obtain ⟨s1,s2,s3⟩:=sm
      have k:∀ b o,s.heap.get? b=some o→h'.get? b=some o:=fun b o e=>H3.base b o (by rw [hs]; exact e)
      dsimp only at s1 s2 s3
      subst s1 s2 s3
      exact q h' t' k
    | _=>exact hr.elim
end
end Mine
end
section
open PySem PySem.W PySem.Calls PyProof.Rows
set_option maxHeartbeats 4000000
set_option tactic.hygienic false
namespace Mine
noncomputable def isLocO:Option NameKind→Bool
  | some .local=>true
  | _=>false
noncomputable def isGlo:Option NameKind→Bool
  | some .globalImplicit=>true
  | _=>false
noncomputable def isCel:NameKind→Bool
  | .cell=>true
  | _=>false
theorem isLoc_spec {o:Option NameKind} (h:isLocO o=true):o=some .local:=by
  cases o with
  | none=>exact noTrue h
  | some k=>cases k<;>first | rfl | exact noTrue h
theorem isGlo_spec {o:Option NameKind} (h:isGlo o=true):o=some .globalImplicit:=by
  cases o with
  | none=>exact noTrue h
  | some k=>cases k<;>first | rfl | exact noTrue h
noncomputable def vNone:Value→Bool
  | .none=>true
  | _=>false
theorem vNone_of {v:Value} (h:vNone v=true):v=.none:=by
  cases v with
  | none=>rfl
  | _=>exact noTrue h
noncomputable def ioNames (l:List (Str × NameKind)):Bool :=
  (l.all fun x=>!isCel x.2)&&(isLocO (l.lookup ("cls":Str))&&(isLocO (l.lookup ("args":Str))&&(isLocO (l.lookup ("kwargs":Str))&&(isGlo (l.lookup ("BytesIO":Str))&&(isGlo (l.lookup ("StringIO":Str))&&isGlo (l.lookup ("object":Str)))))))
noncomputable def ioFd (K:Frag) (fd:FuncData):Bool :=
  !fd.scope.isCoroutine&&(!fd.scope.isGenerator&&(isFun fd.scope.kind&&(fd.closure.isEmpty&&(vNone fd.defaults&&(Nat.beq fd.globals mainGlobals&&(Nat.beq fd.builtins builtinsNs&&(codeIn K fd.code fd.qualname&&(ioPars fd.params&&((bodySts fd.body).any ioBody&&ioNames fd.scope.names)))))))))
noncomputable def ioFnB (K:Frag) (fN:Addr):Bool:=(fdIn K fN).any (ioFd K)
theorem ioFd_of {K:Frag} {fN:Addr} {fd:FuncData} (e0:fdIn K fN=some fd) (e:ioFd K fd=true):∃ body,IoFn K fN fd body:=by
  have h1:=and_of e
  have h2:=and_of h1.2
  have h3:=and_of h2.2
  have h4:=and_of h3.2
  have h5:=and_of h4.2
  have h6:=and_of h5.2
  have h7:=and_of h6.2
  have h8:=and_of h7.2
  have h9:=and_of h8.2
  have h10:=and_of h9.2
  have n0:=and_of h10.2
  have n1:=and_of n0.2
  have n2:=and_of n1.2
  have n3:=and_of n2.2
  have n4:=and_of n3.2
  have n5:=and_of n4.2
  have nc:∀ x ∈ fd.scope.names,x.2 ≠ .cell:=by
    intro x m q
    have:=List.all_eq_true.mp n0.1 x m
    rw [q] at this
    exact noTrue this
  obtain ⟨body,e2,hb⟩:=anyOf h10.1
  exact ⟨body,e0,not_of h1.1,not_of h2.1,isFun_of h3.1,nil_of h4.1,Nat.eq_of_beq_eq_true h6.1,Nat.eq_of_beq_eq_true h7.1,h8.1,h9.1,vNone_of h5.1,bodySts_of e2,hb,nc,isLoc_spec n1.1,isLoc_spec n2.1,isLoc_spec n3.1,isGlo_spec n4.1,isGlo_spec n5.1,isGlo_spec n5.2⟩
theorem ioFnB_spec {K:Frag} {fN:Addr} (e:ioFnB K fN=true):∃ fd body,IoFn K fN fd body:=by
  obtain ⟨fd,e0,e⟩:=anyOf e
  exact ⟨fd,ioFd_of e0 e⟩
end Mine
end
section
open PySem PySem.W PySem.Calls PyProof.Rows
set_option backward.match.sparseCases false
set_option maxHeartbeats 4000000
set_option tactic.hygienic false
namespace Mine
noncomputable def isGet (C p:Addr):CFound→Bool
  | .get g a c m=>(g == .builtin "staticmethod.__get__")&&((a == .ref p)&&((c == .none)&&(m == .ref C)))
  | _=>false
theorem isGet_of {C p:Addr} {a:CFound} (h:isGet C p a=true):a=.get (.builtin "staticmethod.__get__") (.ref p) .none (.ref C):=by
  cases a with
  | get g a c m =>
    have h:=and_of h
    have h2:=and_of h.2
    have h3:=and_of h2.2
    rw [eq_of_beq h.1,eq_of_beq h2.1,eq_of_beq h3.1,eq_of_beq h3.2]
  | _=>exact noTrue h
noncomputable def findB (K:Frag) (C p:Addr):Bool:=(findCls K (.ref C) (.type "type") "__new__").any (isGet C p)
theorem findB_spec {K:Frag} {C p:Addr} (h:findB K C p=true):findCls K (.ref C) (.type "type") "__new__"=some (.get (.builtin "staticmethod.__get__") (.ref p) .none (.ref C)):=by
  obtain ⟨a,e,h⟩:=anyOf h
  rw [e,isGet_of h]
noncomputable def clsB (K:Frag) (C:Addr):Bool:=(K.lookup C).any fun o=>clsFine o.data
noncomputable def ioB (K:Frag) (C p fN:Addr):Bool :=
  clsB K C&&((instIn K (.ref C) (.type "type") == some true)&&((specialIn K (.ref C) "__call__" == some (some (.builtin "type.__call__")))&&((subIn K (.ref C) (.ref C) == some true)&&((subIn K (.ref C) (.type "object") == some true) &&
  (readsIn K C (.type "type")&&(findB K C p&&((recIn K p "staticmethod").any (fun l=>l.head? == some (.ref fN))&&keepIn K (.ref fN))))))))
theorem ioB_of {K:Frag} {C p fN:Addr} (h:ioB K C p fN=true) (k:PeekOk K C):IoCls K C p fN:=by
  have i1:=and_of h
  have i2:=and_of i1.2
  have i3:=and_of i2.2
  have i4:=and_of i3.2
  have i5:=and_of i4.2
  have i6:=and_of i5.2
  have i7:=and_of i6.2
  have i8:=and_of i7.2
  exact ⟨i1.1,k,eq_of_beq i2.1,eq_of_beq i3.1,eq_of_beq i4.1,eq_of_beq i5.1,i6.1,findB_spec i7.1,i8.1,i8.2⟩
noncomputable def lawB (K:Frag) (N:Nm) (T:Tab) (ad:Nat→Option Addr) (CL CS B fL fS:Addr):Bool :=
  noDup N.an&&(allAt (attrB K T ad 0 CL) 0 N.an&&(allAt (attrB K T ad 1 CS) 0 N.an&&(allAt (globF K T ad N.fn) 0 N.fn&&(freeB K&&((nsIn K mainGlobals "deque" == some (some (.type "collections.deque"))) &&
  ((nsIn K mainGlobals "shlex" == some (some (.ref CL)))&&((nsIn K mainGlobals "StringIO" == some (some (.ref CS)))&&((nsIn K mainGlobals "BytesIO" == some (some (.ref B))) &&
  (keepIn K (.ref CL)&&(keepIn K (.ref CS)&&(makesIn K CL&&((findIn K (.ref CL) "__init__" == some (some (.ref fL)))&&((typeIn K (.ref fL) == some (.type "function")) &&
  ((findIn K (.ref CS) "__init__" == some (some (.ref fS)))&&((typeIn K (.ref fS) == some (.type "function")) &&
  ((fdIn K fL).any (fun fd=>kwPars fd.params&&(dfltRaw K fd.defaults).any fun l=>l.length == 4)&&(!(CS == B)&&((K.lookup B).isSome&&(typeIn K (.ref CS) == some (.type "type"))))))))))))))))))))
structure LawOk (K:Frag) (N:Nm) (n:Nat) (T:Tab) (ad:Nat→Option Addr) (CL CS B p fN fL fS:Addr):Prop where
  law:lawB K N T ad CL CS B fL fS=true
  io:ioB K CS p fN=true
  ion:ioFnB K fN=true
  pk:PeekOk K CS
  fn:∀ g fn,T.fns g=some fn→∃ a,ad g=some a∧fnIn K N n a=some fn∧keepIn K (.ref a)=true
structure LawTab (N:Nm) (T:Tab) (ad cl:Nat→Option Addr) (CL CS fL fS:Addr):Prop where
  cn:N.cn=[("shlex":Str),("StringIO":Str)]
  hd:T.hd=false
  cls:∀ c Ca,cl c=some Ca→(c=0∧Ca=CL) ∨ (c=1∧Ca=CS)
  c0:cl 0=some CL
  c1:cl 1=some CS
  i0:∀ g fn,T.init 0=some g→T.fns g=some fn→ad g=some fL∧fn.params.length=5
  i1:∀ g fn,T.init 1=some g→T.fns g=some fn→ad g=some fS∧fn.params.length=3∧fn.defaults.length=2
theorem layOk_of {C:Cx} {N:Nm} {n:Nat} {T:Tab} {ad:Nat→Option Addr} {CL CS B p fN fL fS:Addr} (nm:C.nm=N.an) (O:LawOk C.K N n T ad CL CS B p fN fL fS) (Q:LawTab N T ad C.cls CL CS fL fS) :
    ∃ fdN bodyN,LayOk C N n T ad CL CS B p fN fL fS fdN bodyN:=by
  obtain ⟨fdN,bodyN,hN⟩:=ioFnB_spec O.ion
  have io:=ioB_of O.io O.pk
  have fn:=O.fn
  have l1:=and_of O.law
  clear O
  have l2:=and_of l1.2
  have l3:=and_of l2.2
  have l4:=and_of l3.2
  have l5:=and_of l4.2
  have l6:=and_of l5.2
  have l7:=and_of l6.2
  have l8:=and_of l7.2
  have l9:=and_of l8.2
  have l10:=and_of l9.2
  have l11:=and_of l10.2
  have l12:=and_of l11.2
  have l13:=and_of l12.2
  have l14:=and_of l13.2
  have l15:=and_of l14.2
  have l16:=and_of l15.2
  have l17:=and_of l16.2
  have l18:=and_of l17.2
  have l19:=and_of l18.2
  exact ⟨fdN,bodyN,⟨nm,Q.cn,l1.1,Q.hd,fn,Q.cls,Q.c0,Q.c1,l2.1,l3.1,l4.1,l5.1,eq_of_beq l6.1,eq_of_beq l7.1,eq_of_beq l8.1,eq_of_beq l9.1,Q.i0,Q.i1,l10.1,l11.1,l12.1,eq_of_beq l13.1,eq_of_beq l14.1,eq_of_beq l15.1,eq_of_beq l16.1,l17.1,io,hN,not_of l18.1,l19.1,eq_of_beq l19.2⟩⟩
theorem law_go {K:Frag} {prog:Program} {w:World} {s:Shared} {mg mb:Str→Option Value} {N:Nm} {n:Nat} {T:Tab} {ad cl:Nat→Option Addr} {CL CS B p fN fL fS:Addr} (KX:K.In s.heap) (O:LawOk K N n T ad CL CS B p fN fL fS) (Q:LawTab N T ad cl CL CS fL fS)
    (g:s.heap.Ns mainGlobals mg) (b:s.heap.Ns builtinsNs mb) (bb:∀ x:Str,x ≠ "__name__"→mb x=bootBuiltins x) (nl:s.heap.NoLimit) (sm:s.heap.NoSeer) {Kn d gl:Nat} {fn:Fn} {fa:Addr} {x:Str} (hmg:mg x=some (.ref fa)) (hx:posOf x N.fn 0=some gl) (hfn:T.fns gl=some fn)
    {is:List Int} (hlaw:callF T Kn d gl [.lst (is.map .int)] []=.ok (.bool true) []) {A:Around} (hA:AOk A d) (hh:A.handled=none) (hfr:A.frames=some []) {l:Addr} {P:Params} (wl:Well P s.heap (.ref l) (ofPy (PyData.list (is.map PyData.int)))) (hlen:is.length ≤ 63)
    {R:Result→Shared→Prop} (q:∀ h' tk,(∀ b o,s.heap.get? b=some o→h'.get? b=some o)→R (.ok (.ret (.bool true))) { s with heap:=h',toks:=tk }) :
    codeAny (model prog w) A (.call (.ref fa) ⟨[.ref l],[]⟩) R s:=by
  obtain ⟨fdN,bodyN,L⟩:=layOk_of (C:=⟨prog,w,K,s.heap,N.an,cl,prog,[],mg,mb⟩) rfl O Q
  obtain ⟨mm,hmm,_⟩:=sm.mods
  obtain ⟨o,_,_,ho,_⟩:=hmm
  have X:CxOk ⟨prog,w,K,s.heap,N.an,cl,prog,[],mg,mb⟩:=⟨KX,g,b,⟨o,ho⟩⟩
  obtain ⟨xs,hl1,hl2⟩:=well_list wl
  obtain ⟨fn',fa',e1,e2,e3⟩:=(L.globOk X bb).fn x gl hx
  have e3:mg x=some (.ref fa'):=e3
  rw [hmg] at e3
  cases e3
  exact law_top L X bb nl hfn e2 hlaw hA hh hfr rfl hl1 hl2 (by unfold lim; omega) q
end Mine
end
section
open PySem PySem.W PySem.Calls PyProof.Rows
set_option maxHeartbeats 4000000
set_option tactic.hygienic false
namespace Mine
noncomputable def endG (st:(Code→Sem Fin)→Program→World→SharedT→Thread→Option (SharedT × Thread)) (den:Code→Sem Fin) (ex:Thread→Option (List Value)) (p:Program) (w:World):Nat→SharedT→Thread→Option SharedT
  | 0,_,_=>none
  | n+1,s,t=>match ex t with
    | some []=>some s
    | some (_ :: _)=>none
    | none=>match st den p w s t with
      | some (s',t')=>endG st den ex p w n s' t'
      | none=>none
theorem goOf {den:Code→Sem Fin} {p:Program} {w:World} {s s':SharedT} {t:Thread} {f:SharedT→Thread→Option SharedT} {g:Shared→Thread→Option Shared} (ih:∀ {s:SharedT} {t:Thread},f s t=some s'→g s.abs t=some s'.abs) :
    (match stepT den p w s t with | some (s',t')=>f s' t' | none=>none)=some s'→(match step den p w s.abs t with | .go s' t'=>g s' t' | .halt _ _=>none)=some s'.abs:=by
  cases hs:stepT den p w s t with
  | none=>exact fun h=>noSome h
  | some r =>
    rw [stepT_spec (s':=r.1) (t':=r.2) hs]
    exact ih
theorem endG_of {tb:String→Option Builtin} {p:Program} {w:World} {s':SharedT} (n:Nat):∀ {s:SharedT} {t:Thread},endG stepT (denote tb) Thread.atExitBegin p w n s t=some s'→importEnds tb p w n s.abs t=some s'.abs:=by
  induction n with
  | zero=>exact fun h=>noSome h
  | succ n ih =>
    intro s t
    show (match t.atExitBegin with | some []=>some s | some (_ :: _)=>none | none=>match stepT (denote tb) p w s t with | some (s',t')=>endG stepT (denote tb) Thread.atExitBegin p w n s' t' | none=>none)=_ →
      (match t.atExitBegin with | some []=>some s.abs | some (_ :: _)=>none | none=>match step (denote tb) p w s.abs t with | .go s' t'=>importEnds tb p w n s' t' | .halt _ _=>none)=_
    cases t.atExitBegin with
    | some l =>
      cases l with
      | nil=>exact fun h=>congrArg (Option.map SharedT.abs) h
      | cons _ _=>exact fun h=>noSome h
    | none=>exact goOf ih
noncomputable def runG (st:(Code→Sem Fin)→Program→World→SharedT→Thread→Option (SharedT × Thread)) (den:Code→Sem Fin) (okk:Nat→Option Value→Thread→Bool) (p:Program) (w:World) (n₀:Nat) (ann:Option Value):Nat→SharedT→Thread→Option SharedT
  | 0,_,_=>none
  | n+1,s,t=>match PySem.W.through t with
    | true=>some s
    | false=>match okk n₀ ann t with
      | false=>none
      | true=>match st den p w s t with
        | some (s',t')=>runG st den okk p w n₀ ann n s' t'
        | none=>none
theorem runG_of {tb:String→Option Builtin} {p:Program} {w:World} {n₀:Nat} {ann:Option Value} {s':SharedT} (n:Nat):∀ {s:SharedT} {t:Thread},runG stepT (denote tb) stepOk p w n₀ ann n s t=some s'→topRun tb p w n₀ ann n s.abs t=some s'.abs:=by
  induction n with
  | zero=>exact fun h=>noSome h
  | succ n ih =>
    intro s t
    show (match PySem.W.through t with | true=>some s | false=>match stepOk n₀ ann t with | false=>none | true=>match stepT (denote tb) p w s t with | some (s',t')=>runG stepT (denote tb) stepOk p w n₀ ann n s' t' | none=>none)=_ →
      (match PySem.W.through t with | true=>some s.abs | false=>match stepOk n₀ ann t with | false=>none | true=>match step (denote tb) p w s.abs t with | .go s' t'=>topRun tb p w n₀ ann n s' t' | .halt _ _=>none)=_
    cases PySem.W.through t with
    | true=>exact fun h=>congrArg (Option.map SharedT.abs) h
    | false =>
      cases stepOk n₀ ann t with
      | false=>exact fun h=>noSome h
      | true=>exact goOf ih
noncomputable def fenceT1 (m:Str) (s:SharedT):Option SharedT:=(boundIn s.abs.heap sysModules m).bind fun v=>(refOf v).bind fun a=>(tameNamesOf? m).bind fun row=>(s.abs.heap.get? a).bind fun o=>o.dict.bind fun D =>
  (s.abs.heap.get? D).bind fun od=>(s.tree.get D).bind fun _=>(fenceDict? m row od).map fun od'=>{ s with tree:=s.tree.set D fun _=>od' }
theorem bindOf {α β:Type} {o:Option α} {f:α→Option β} {b:β} (h:o.bind f=some b):∃ a,o=some a∧f a=some b:=by
  cases o with
  | none=>exact noSome h
  | some a=>exact ⟨a,rfl,h⟩
theorem fence_eq {m:Str} {s:Shared} {a D:Addr} {row:List Str} {o od od':Obj} (h1:boundIn s.heap sysModules m=some (.ref a)) (h2:tameNamesOf? m=some row) (h3:s.heap.get? a=some o) (h4:o.dict=some D) (h5:s.heap.get? D=some od) (h6:fenceDict? m row od=some od') :
    fenceModule? m s=some { s with heap:=s.heap.update D fun _=>od' }:=by
  unfold fenceModule?
  rw [h1,h2]
  dsimp only
  rw [h3]
  dsimp only
  rw [h4]
  dsimp only
  rw [h5]
  dsimp only
  rw [h6]
  rfl
theorem fenceT1_of {m:Str} {s s':SharedT} (h:fenceT1 m s=some s'):fenceModule? m s.abs=some s'.abs:=by
  obtain ⟨v,h1,h⟩:=bindOf h
  obtain ⟨a,hv,h⟩:=bindOf h
  obtain ⟨row,h2,h⟩:=bindOf h
  obtain ⟨o,h3,h⟩:=bindOf h
  obtain ⟨D,h4,h⟩:=bindOf h
  obtain ⟨od,h5,h⟩:=bindOf h
  obtain ⟨o2,h7,h⟩:=bindOf h
  obtain ⟨od',h6,e⟩:=Option.map_eq_some_iff.mp h
  rw [refOf_of hv] at h1
  rw [fence_eq h1 h2 h3 h4 h5 h6,← e]
  exact congrArg some (congrArg (fun x=>({ s.abs with heap:=x }:Shared)) (absHeap_set h7).symm)
noncomputable def fenceTs:List Str→SharedT→Option SharedT
  | []=>fun s=>some s
  | m :: r=>fun s=>(fenceT1 m s).bind (fenceTs r)
theorem fenceTs_of {s':SharedT} (ms:List Str):∀ {s:SharedT},fenceTs ms s=some s'→fenceAll? ms s.abs=some s'.abs:=by
  induction ms with
  | nil=>exact fun h=>congrArg (Option.map SharedT.abs) h
  | cons m r ih =>
    intro s h
    obtain ⟨s2,h1,h2⟩:=bindOf h
    show (fenceModule? m s.abs).bind (fenceAll? r)=_
    rw [fenceT1_of h1]
    exact ih h2
noncomputable def startT (s:Shared):SharedT:=⟨.nil,0,s.heap.life,s.gens,s.drawn,s.toks,s.os⟩
noncomputable def topG (st:(Code→Sem Fin)→Program→World→SharedT→Thread→Option (SharedT × Thread)) (den:Code→Sem Fin) (ex:Thread→Option (List Value)) (okk:Nat→Option Value→Thread→Bool) (sta:Program→Shared × Thread) (p:Program) (w:World) (N:Nat):Option (SharedT × SharedT) :=
  (endG st den ex (opening p) w N (startT (sta (opening p)).1) (sta (opening p)).2).bind fun s=>(fenceTs (importedModules p.main.body) s).bind fun s0 =>
    match s0.abs.heap.isNs mainGlobals&&s0.abs.gens.size == 0 with
    | false=>none
    | true=>(runG st den okk p w s0.n (s0.abs.heap.nsMap mainGlobals "__annotations__") N s0 (topStub p)).map fun s1=>(s0,s1)
noncomputable def lookG {α:Type} (sn:Program→List Str→List Str→(Shared→Bool)→Bool→Shared→α) (p q:Program) (loose:List Str) (Xt:Shared→Bool) (g0:Bool) {β:Type} (Yf:Shared→β) (r:SharedT × SharedT):Bool × α × β :=
  (!(p.main.body.any namesNumpy)&&(staticsOk (importedModules p.main.body) r.1.abs.heap r.2.abs.heap&&namesBound p r.2.abs.heap&&gensDone r.2.abs&&laidKept r.1.abs.heap r.2.abs.heap),sn q loose (importedModules p.main.body) Xt g0 r.2.abs,Yf r.2.abs)
theorem fenced_of {p:Program} {w:World} {N:Nat} {s sf:SharedT} (hn:p.main.body.any namesNumpy=false) (e1:endG stepT (denote treeTable) Thread.atExitBegin (opening p) w N (startT (start (opening p)).1) (start (opening p)).2=some s)
    (e2:fenceTs (importedModules p.main.body) s=some sf):fencedOpening treeTable p w N=some sf.abs:=by
  have i1:importEnds treeTable (opening p) w N (start (opening p)).1 (start (opening p)).2=some s.abs:=endG_of N e1
  unfold fencedOpening
  rw [i1]
  show (fenceAll? (importedModules p.main.body) s.abs).bind _=_
  rw [fenceTs_of _ e2]
  show (if p.main.body.any namesNumpy=true then _ else some sf.abs)=_
  rw [hn]
  rfl
theorem top_of {p:Program} {w:World} {N:Nat} {s0 s1:SharedT} (e3:(s0.abs.heap.isNs mainGlobals&&s0.abs.gens.size == 0)=true) (e4:runG stepT (denote treeTable) stepOk p w s0.n (s0.abs.heap.nsMap mainGlobals "__annotations__") N s0 (topStub p)=some s1)
    (z:(staticsOk (importedModules p.main.body) s0.abs.heap s1.abs.heap&&namesBound p s1.abs.heap&&gensDone s1.abs&&laidKept s0.abs.heap s1.abs.heap)=true):topFrom treeTable p w N s0.abs=some s1.abs:=by
  have hsz:s0.abs.heap.objs.size=s0.n:=absHeap_size _ _ _
  unfold topFrom
  rw [e3]
  dsimp only
  rw [hsz,runG_of N e4]
  show (match staticsOk (importedModules p.main.body) s0.abs.heap s1.abs.heap&&namesBound p s1.abs.heap&&gensDone s1.abs&&laidKept s0.abs.heap s1.abs.heap with | true=>some s1.abs | false=>none)=_
  rw [z]
theorem trueOf {α:Type} {b:Bool} {x:Option α} {a:α} (h:(match b with | false=>none | true=>x)=some a):b=true∧x=some a:=by
  cases b with
  | false=>exact noSome h
  | true=>exact ⟨rfl,h⟩
theorem left_of {p q:Program} {loose:List Str} {Xt:Shared→Bool} {α:Type} {Yf:Shared→α} {Ya:World→α} {N:Nat} {g0:Bool}
    (h:∀ w,(topG stepT (denote treeTable) Thread.atExitBegin stepOk start p w N).map (lookG openSeen p q loose Xt g0 Yf)=some (true,openGood q loose,Ya w)):LeftO p q loose Xt Yf Ya N g0:=by
  intro w
  obtain ⟨r,h1,h2⟩:=Option.map_eq_some_iff.mp (h w)
  have z1:=and_of (congrArg Prod.fst h2)
  have z2:=congrArg (fun x=>x.2) h2
  clear h2
  obtain ⟨s,e1,h1⟩:=bindOf h1
  obtain ⟨s0,e2,h1⟩:=bindOf h1
  obtain ⟨e3,h1⟩:=trueOf h1
  obtain ⟨s1,e4,h1⟩:=Option.map_eq_some_iff.mp h1
  rw [← h1] at z1 z2
  unfold openEnds
  rw [fenced_of (not_of z1.1) e1 e2]
  show (topFrom treeTable p w N s0.abs).map _=_
  rw [top_of e3 e4 z1.2]
  exact congrArg some z2
end Mine
end
section
open PySem PySem.W PySem.Calls PyProof.Rows
set_option backward.match.sparseCases false
set_option maxHeartbeats 4000000
set_option tactic.hygienic false
namespace Mine
noncomputable def fragOf (as:List Nat) (h:Heap):Frag:=as.filterMap fun a=>(h.get? a).map fun o=>(a,o)
theorem lookup_step {b:Addr} {ob:Obj} {r:Frag} {h:Heap} (hb:h.get? b=some ob) (ih:Frag.In r h):Frag.In ((b,ob) :: r) h:=by
  intro a o e
  have e:(match a == b with | true=>some ob | false=>r.lookup a)=some o:=e
  cases hab:(a == b) with
  | true=>rw [hab] at e; rw [eq_of_beq hab,hb]; exact e
  | false=>rw [hab] at e; exact ih a o e
theorem frag_in (h:Heap) (as:List Nat):(fragOf as h).In h:=by
  induction as with
  | nil=>exact fun a o e=>noSome e
  | cons b as ih =>
    cases hb:h.get? b with
    | none =>
      have e:fragOf (b :: as) h=fragOf as h:=List.filterMap_cons_none (by rw [hb]; rfl)
      rw [e]
      exact ih
    | some ob =>
      have e:fragOf (b :: as) h=(b,ob) :: fragOf as h:=List.filterMap_cons_some (by rw [hb]; rfl)
      rw [e]
      exact lookup_step hb ih
noncomputable def peekN {α:Type} (K:Frag):Sem α→Option α
  | .pure a=>some a
  | .rule _ k=>peekN K (k ())
  | .point _ k=>peekN K (k ())
  | .load a _ k=>(K.lookup a).bind fun o=>peekN K (k o)
  | _=>none
theorem peekN_of {α:Type} {K:Frag} {S:Setting} {a:α} (t:Sem α):peekN K t=some a→peek K S t=some a:=by
  induction t with
  | pure b=>exact fun e=>e
  | rule _ k ih=>exact ih ()
  | point _ k ih=>exact ih ()
  | load b _ k ih =>
    intro e
    have e:((K.lookup b).bind fun o=>peekN K (k o))=some a:=e
    simp only [peek]
    cases hb:K.lookup b with
    | none=>rw [hb] at e; exact noSome e
    | some o=>rw [hb] at e; exact ih o e
  | _=>exact fun e=>noSome e
noncomputable def peekB (K:Frag) (CS:Addr):Bool :=
  (peekN K (Bind.madeBy (.ref CS))).any (·.isNone)&&(peekN K (Bind.madeHere "object.__new__" (.ref CS))).isSome &&
  (peekN K (Bind.staticBase (.ref CS))).any (fun v=>match v with | .type t=>t == "object" | _=>false)&&(peekN K (Bind.madeBy (.type "object"))).any (fun o=>o.any (· == "object.__new__"))
theorem anyEq {α:Type} {o:Option α} {f:α→Bool} {a:α} (g:∀ x,f x=true→x=a):o.any f=true→o=some a:=by
  cases o with
  | none=>exact fun e=>noTrue e
  | some x=>exact fun e=>congrArg some (g x e)
theorem peekB_of {K:Frag} {CS:Addr} (h:peekB K CS=true):PeekOk K CS:=by
  have h:=and_of h
  have h3:=and_of h.1
  have h2:=and_of h3.1
  refine ⟨fun S=>peekN_of _ (anyEq ?_ h2.1),fun S=>peekN_of _ ?_,fun S=>peekN_of _ (anyEq ?_ h3.2),fun S=>peekN_of _ (anyEq ?_ h.2)⟩
  · intro x e
    cases x with
    | none=>rfl
    | some _=>exact noTrue e
  · have h:=h2.2
    generalize peekN K (Bind.madeHere "object.__new__" (.ref CS))=o at h
    cases o with
    | none=>exact noTrue h
    | some u=>rfl
  · intro v e
    cases v with
    | type t=>exact congrArg Value.type (eq_of_beq e)
    | _=>exact noTrue e
  · intro o e
    exact anyEq (fun x=>eq_of_beq) e
noncomputable def lawYf (as:List Nat) (N:Nm) (n:Nat) (T:Tab) (ad:Nat→Option Addr) (gs:List Nat) (CL CS B p fN fL fS:Addr) (s:Shared):Bool × List (Option Fn) :=
  (lawB (fragOf as s.heap) N T ad CL CS B fL fS&&(ioB (fragOf as s.heap) CS p fN&&(ioFnB (fragOf as s.heap) fN&&(peekB (fragOf as s.heap) CS&&gs.all (fun g=>(ad g).any fun a=>keepIn (fragOf as s.heap) (.ref a))))),
   gs.map fun g=>(ad g).bind (fnIn (fragOf as s.heap) N n))
theorem map_at {α:Type} {f h:Nat→α} {g:Nat} {gs:List Nat}:gs.map f=gs.map h→g ∈ gs→f g=h g:=by
  induction gs with
  | nil=>exact fun _ m=>nomatch m
  | cons a gs ih =>
    intro e m
    have e:f a :: gs.map f=h a :: gs.map h:=e
    cases m with
    | head=>exact (List.cons.inj e).1
    | tail _ m=>exact ih (List.cons.inj e).2 m
theorem fn_at {K:Frag} {N:Nm} {n g:Nat} {fn:Fn} {o:Option Addr} (k:o.any (fun a=>keepIn K (.ref a))=true) (f:o.bind (fnIn K N n)=some fn):∃ a,o=some a∧fnIn K N n a=some fn∧keepIn K (.ref a)=true:=by
  cases o with
  | none=>exact noTrue k
  | some a=>exact ⟨a,rfl,f,k⟩
theorem lawYf_spec {as:List Nat} {N:Nm} {n:Nat} {T:Tab} {ad:Nat→Option Addr} {gs:List Nat} {CL CS B p fN fL fS:Addr} {s:Shared} (e:lawYf as N n T ad gs CL CS B p fN fL fS s=(true,gs.map T.fns)) (hg:∀ g fn,T.fns g=some fn→g ∈ gs) :
    LawOk (fragOf as s.heap) N n T ad CL CS B p fN fL fS:=by
  have e1:=and_of (congrArg Prod.fst e)
  have e6:(gs.map fun g=>(ad g).bind (fnIn (fragOf as s.heap) N n))=gs.map T.fns:=congrArg Prod.snd e
  clear e
  generalize fragOf as s.heap=K at e1 e6 ⊢
  have e2:=and_of e1.2
  have e3:=and_of e2.2
  have e4:=and_of e3.2
  refine ⟨e1.1,e2.1,e3.1,peekB_of e4.1,fun g fn hfn=>?_⟩
  have m:=hg g fn hfn
  exact fn_at (g:=g) (List.all_eq_true.mp e4.2 g m) ((map_at e6 m).trans hfn)
end Mine
end
section
open PySem PySem.W PyProof.Rows
set_option maxHeartbeats 8000000
namespace Mine
theorem looks_of {p:Program} (h1:sreFenced p.main=true) (h2:((moduleNames p.main.body).isEmpty || lookedIntoSs (moduleNames p.main.body) p.main.body)=true) (h3:namesResolve p=true) (h4:p.boundNames.all (fun n=>!worldNames.contains n)=true)
    {c:Bool} {b:List Str} (hc:(!(importedModules p.main.body).all cThrough.contains)=c) (hb:(["vars","dir","locals"]:List Str).filter (readsOut p p.main.body)=b) (h5:noRoadLSs { strict:=c,foot:=none,bare:=b } p.main.body=true) (h6:(namesMeet p p.main.body fun _ n=>attrL n)=true):looksOpen p=true:=by
  subst hc hb
  exact look_both (look_both (look_both (look_both (look_both h1 h2) h3) h4) h5) h6
end Mine
end
section
set_option tactic.hygienic false
namespace Mine.L2
open Mine
noncomputable def b0_0:Sts:=.cons (.expr .bad) (.nil)
noncomputable def b0_1:Sts:=.cons (.expr .bad) (.nil)
noncomputable def b0_2:Sts:=.cons (.if_ (.boolop true (.cons (.cmp .isNot (.bi .typ (.cons (.loc 0) .nil)) (.lit (.typ 0))) (.cons (.cmp .isNot (.bi .typ (.cons (.loc 0) .nil)) (.lit (.typ 1))) .nil))) b0_0 .nil) (.cons (.asg 0 (.bi .int (.cons (.loc 0) .nil))) (.cons (.if_ (.boolop false (.cons (.cmp .gt (.loc 0) (.lit (.int 1099511627776))) (.cons (.cmp .lt (.loc 0) (.neg (.lit (.int 1099511627776)))) .nil))) b0_1 .nil) (.cons (.ret (.loc 0)) (.nil))))
noncomputable def fn0:Fn:=⟨6,[],[0,1],[],b0_2⟩
noncomputable def b1_0:Sts:=.cons (.asg 3 (.bin .fdiv (.loc 3) (.lit (.int 16)))) (.cons (.expr (.bm .append (.loc 1) (.cons (.bin .mod (.loc 3) (.lit (.int 16))) .nil))) (.nil))
noncomputable def b1_1:Sts:=.cons (.asg 3 (.bin .mod (.loc 2) (.bin .pow (.lit (.int 16)) (.lit (.int 4))))) (.cons (.expr (.bm .append (.loc 1) (.cons (.bin .mod (.loc 3) (.lit (.int 16))) .nil))) (.cons (.while_ (.cmp .gt (.loc 3) (.lit (.int 15))) b1_0) (.nil)))
noncomputable def b1_2:Sts:=.cons (.asg 1 (.list .nil)) (.cons (.for_ 2 (.slice (.loc 0) (.lit (.none)) (.lit (.int 40))) b1_1) (.cons (.ret (.loc 1)) (.nil)))
noncomputable def fn1:Fn:=⟨4,[],[0],[],b1_2⟩
noncomputable def b3_0:Sts:=.cons (.asg 5 (.idx (.loc 0) (.loc 1))) (.cons (.aug 1 .add (.lit (.int 1))) (.nil))
noncomputable def b3_1:Sts:=.cons (.ret (.tup (.cons (.loc 5) (.cons (.loc 1) (.cons (.lit (.str [])) .nil))))) (.nil)
noncomputable def b3_2:Sts:=.cons (.asg 7 (.slice (.loc 0) (.bin .add (.loc 1) (.lit (.int 1))) (.bin .add (.loc 1) (.lit (.int 2))))) (.cons (.asg 8 (.bin .add (.loc 1) (.lit (.int 2)))) (.cons (.asg 9 (.ife (.cmp .eq (.loc 7) (.lit (.str []))) (.lit (.str [78,111,32,101,115,99,97,112,101,100,32,99,104,97,114,97,99,116,101,114])) (.lit (.str [])))) (.nil)))
noncomputable def b3_3:Sts:=.cons (.unp [7,8,9] (.callF 6 (.cons (.loc 0) (.cons (.loc 1) (.cons (.loc 2) .nil))))) (.nil)
noncomputable def b3_4:Sts:=.cons (.if_ (.cmp .eq (.loc 6) (.lit (.str [113]))) b3_3 .nil) (.nil)
noncomputable def b3_5:Sts:=.cons (.ret (.tup (.cons (.lit (.str [])) (.cons (.loc 1) (.cons (.loc 9) .nil))))) (.nil)
noncomputable def b3_6:Sts:=.cons (.asg 6 (.idx (.lit (.str [111,108,46,46,46,113,113,101,108,113,113,101,113,101,46,46])) (.idx (.loc 3) (.idx (.loc 0) (.loc 1))))) (.cons (.if_ (.boolop false (.cons (.cmp .eq (.loc 6) (.lit (.str [46]))) (.cons (.boolop true (.cons (.cmp .eq (.loc 6) (.lit (.str [111]))) (.cons (.not_ (.loc 4)) .nil))) .nil))) b3_1 .nil) (.cons (.asg 7 (.idx (.loc 0) (.loc 1))) (.cons (.asg 8 (.bin .add (.loc 1) (.lit (.int 1)))) (.cons (.asg 9 (.lit (.str []))) (.cons (.if_ (.cmp .eq (.loc 6) (.lit (.str [101]))) b3_2 b3_4) (.cons (.if_ (.cmp .ne (.loc 9) (.lit (.str []))) b3_5 .nil) (.cons (.aug 5 .add (.loc 7)) (.cons (.asg 1 (.loc 8)) (.nil)))))))))
noncomputable def b3_7:Sts:=.cons (.asg 5 (.lit (.str []))) (.cons (.if_ (.cmp .in_ (.idx (.lit (.str [111,108,114,98,104,113,113,101,108,114,114,101,108,101,98,104])) (.idx (.loc 3) (.idx (.loc 0) (.loc 1)))) (.lit (.str [108,111]))) b3_0 .nil) (.cons (.while_ (.cmp .lt (.loc 1) (.bi .len (.cons (.loc 0) .nil))) b3_6) (.cons (.ret (.tup (.cons (.loc 5) (.cons (.loc 1) (.cons (.lit (.str [])) .nil))))) (.nil))))
noncomputable def fn3:Fn:=⟨12,[],[0,1,2,3,4],[],b3_7⟩
noncomputable def b5_0:Sts:=.cons (.ret (.tup (.cons (.loc 4) (.cons (.lit (.none)) .nil)))) (.nil)
noncomputable def b5_1:Sts:=.cons (.asg 7 (.bin .add (.bm .find (.loc 0) (.cons (.lit (.str [10])) (.cons (.loc 7) .nil))) (.lit (.int 1)))) (.cons (.if_ (.cmp .eq (.loc 7) (.lit (.int 0))) b5_0 .nil) (.nil))
noncomputable def b5_2:Sts:=.cons (.aug 7 .add (.lit (.int 1))) (.nil)
noncomputable def b5_3:Sts:=.cons (.while_ (.boolop true (.cons (.cmp .lt (.loc 7) (.bi .len (.cons (.loc 0) .nil))) (.cons (.cmp .in_ (.idx (.loc 2) (.idx (.loc 0) (.loc 7))) (.list (.cons (.lit (.int 2)) (.cons (.lit (.int 8)) (.cons (.lit (.int 9)) (.cons (.lit (.int 10)) (.cons (.lit (.int 11)) .nil))))))) .nil))) b5_2) (.cons (.expr (.bm .append (.loc 4) (.cons (.slice (.loc 0) (.loc 5) (.loc 7)) .nil))) (.nil))
noncomputable def b5_4:Sts:=.cons (.expr (.bm .append (.loc 4) (.cons (.idx (.loc 0) (.loc 5)) .nil))) (.nil)
noncomputable def b5_5:Sts:=.cons (.ret (.tup (.cons (.loc 4) (.cons (.tup (.cons (.lit (.str [114,101,102,117,115,101,100])) (.cons (.loc 9) .nil))) .nil)))) (.nil)
noncomputable def b5_6:Sts:=.cons (.unp [8,7,9] (.callF 3 (.cons (.loc 0) (.cons (.loc 5) (.cons (.loc 1) (.cons (.loc 2) (.cons (.loc 3) .nil))))))) (.cons (.if_ (.cmp .ne (.loc 9) (.lit (.str []))) b5_5 .nil) (.cons (.expr (.bm .append (.loc 4) (.cons (.loc 8) .nil))) (.nil)))
noncomputable def b5_7:Sts:=.cons (.if_ (.cmp .ne (.loc 6) (.lit (.str [98]))) b5_6 .nil) (.nil)
noncomputable def b5_8:Sts:=.cons (.if_ (.boolop true (.cons (.cmp .eq (.loc 6) (.lit (.str [111]))) (.cons (.not_ (.loc 3)) .nil))) b5_4 b5_7) (.nil)
noncomputable def b5_9:Sts:=.cons (.if_ (.cmp .eq (.loc 6) (.lit (.str [114]))) b5_3 b5_8) (.nil)
noncomputable def b5_10:Sts:=.cons (.asg 6 (.idx (.lit (.str [111,108,114,98,104,113,113,101,108,114,114,101,108,101,98,104])) (.idx (.loc 2) (.idx (.loc 0) (.loc 5))))) (.cons (.asg 7 (.bin .add (.loc 5) (.lit (.int 1)))) (.cons (.if_ (.cmp .eq (.loc 6) (.lit (.str [104]))) b5_1 b5_9) (.cons (.asg 5 (.loc 7)) (.nil))))
noncomputable def b5_11:Sts:=.cons (.asg 4 (.list .nil)) (.cons (.asg 5 (.lit (.int 0))) (.cons (.while_ (.cmp .lt (.loc 5) (.bi .len (.cons (.loc 0) .nil))) b5_10) (.cons (.ret (.tup (.cons (.loc 4) (.cons (.lit (.none)) .nil)))) (.nil))))
noncomputable def fn5:Fn:=⟨12,[],[0,1,2,3],[],b5_11⟩
noncomputable def b6_0:Sts:=.cons (.ret (.tup (.cons (.lit (.str [])) (.cons (.loc 1) (.cons (.lit (.str [78,111,32,101,115,99,97,112,101,100,32,99,104,97,114,97,99,116,101,114])) .nil))))) (.nil)
noncomputable def b6_1:Sts:=.cons (.asg 6 (.slice (.loc 0) (.bin .add (.loc 1) (.lit (.int 1))) (.bin .add (.loc 1) (.lit (.int 2))))) (.cons (.if_ (.cmp .eq (.loc 6) (.lit (.str []))) b6_0 .nil) (.cons (.aug 4 .add (.ife (.cmp .in_ (.loc 6) (.list (.cons (.loc 5) (.cons (.loc 3) .nil)))) (.loc 6) (.bin .add (.loc 5) (.loc 6)))) (.cons (.aug 1 .add (.lit (.int 2))) (.nil))))
noncomputable def b6_2:Sts:=.cons (.aug 4 .add (.loc 5)) (.cons (.aug 1 .add (.lit (.int 1))) (.nil))
noncomputable def b6_3:Sts:=.cons (.asg 5 (.idx (.loc 0) (.loc 1))) (.cons (.if_ (.boolop true (.cons (.cmp .in_ (.idx (.loc 2) (.loc 3)) (.list (.cons (.lit (.int 6)) (.cons (.lit (.int 10)) .nil)))) (.cons (.cmp .in_ (.idx (.loc 2) (.loc 5)) (.list (.cons (.lit (.int 7)) (.cons (.lit (.int 11)) (.cons (.lit (.int 13)) .nil))))) .nil))) b6_1 b6_2) (.nil))
noncomputable def b6_4:Sts:=.cons (.asg 3 (.idx (.loc 0) (.loc 1))) (.cons (.asg 4 (.lit (.str []))) (.cons (.aug 1 .add (.lit (.int 1))) (.cons (.while_ (.boolop true (.cons (.cmp .lt (.loc 1) (.bi .len (.cons (.loc 0) .nil))) (.cons (.cmp .ne (.idx (.loc 0) (.loc 1)) (.loc 3)) .nil))) b6_3) (.cons (.ret (.tup (.cons (.loc 4) (.cons (.bin .add (.loc 1) (.lit (.int 1))) (.cons (.ife (.cmp .eq (.loc 1) (.bi .len (.cons (.loc 0) .nil))) (.lit (.str [78,111,32,99,108,111,115,105,110,103,32,113,117,111,116,97,116,105,111,110])) (.lit (.str []))) .nil))))) (.nil)))))
noncomputable def fn6:Fn:=⟨8,[],[0,1,2],[],b6_4⟩
noncomputable def b14_0:Sts:=.cons (.asgI (.loc 4) (.idx (.loc 3) (.loc 5)) (.idx (.loc 2) (.loc 5))) (.nil)
noncomputable def b14_1:Sts:=.cons (.asgI (.loc 9) (.loc 10) (.lit (.int 3))) (.nil)
noncomputable def b14_2:Sts:=.cons (.asgI (.loc 9) (.loc 10) (.lit (.int 4))) (.nil)
noncomputable def b14_3:Sts:=.cons (.if_ (.cmp .in_ (.loc 10) (.loc 8)) b14_2 .nil) (.nil)
noncomputable def b14_4:Sts:=.cons (.asgI (.loc 9) (.loc 10) (.idx (.loc 4) (.loc 10))) (.cons (.if_ (.boolop false (.cons (.cmp .in_ (.loc 10) (.loc 7)) (.cons (.cmp .in_ (.idx (.loc 4) (.loc 10)) (.list (.cons (.lit (.int 3)) (.cons (.lit (.int 14)) .nil)))) .nil))) b14_1 b14_3) (.nil))
noncomputable def b14_5:Sts:=.cons (.expr (.bm .append (.loc 16) (.cons (.callM (.loc 13) 29 .nil) .nil))) (.nil)
noncomputable def b14_6:Sts:=.cons (.expr (.bm .append (.loc 16) (.cons (.tup (.cons (.lit (.str [114,101,102,117,115,101,100])) (.cons (.bi .str (.cons (.loc 18) .nil)) .nil))) .nil))) (.nil)
noncomputable def b14_7:Sts:=.cons (.try_ b14_5 18 b14_6) (.nil)
noncomputable def b14_8:Sts:=.cons (.asg 1 (.boolop false (.cons (.callF 1 (.cons (.loc 0) .nil)) (.cons (.list (.cons (.lit (.int 0)) (.cons (.lit (.int 1)) (.cons (.lit (.int 1)) (.cons (.lit (.int 0)) (.cons (.lit (.int 0)) (.cons (.lit (.int 0)) (.cons (.lit (.int 0)) (.cons (.lit (.int 2)) (.cons (.lit (.int 0)) (.cons (.lit (.int 1)) (.cons (.lit (.int 2)) .nil)))))))))))) .nil)))) (.cons (.asg 2 (.slice (.bin .add (.loc 1) (.list (.cons (.lit (.int 0)) (.cons (.lit (.int 0)) (.cons (.lit (.int 0)) (.cons (.lit (.int 0)) (.cons (.lit (.int 0)) (.cons (.lit (.int 0)) (.cons (.lit (.int 0)) (.cons (.lit (.int 0)) .nil)))))))))) (.lit (.none)) (.lit (.int 8)))) (.cons (.asg 3 (.lit (.str [117,118,119,120,121,122,10,43]))) (.cons (.asg 4 (.dict (.cons (.lit (.str [43])) .nil) (.cons (.lit (.int 2)) .nil))) (.cons (.for_ 5 (.bi .range (.cons (.lit (.int 7)) .nil)) b14_0) (.cons (.asg 6 (.cmp .eq (.bin .mod (.idx (.loc 2) (.lit (.int 7))) (.lit (.int 2))) (.lit (.int 1)))) (.cons (.asg 7 (.bin .add (.ife (.bin .mod (.bin .fdiv (.idx (.loc 2) (.lit (.int 7))) (.lit (.int 2))) (.lit (.int 2))) (.lit (.str [118])) (.lit (.str []))) (.ife (.bin .fdiv (.idx (.loc 2) (.lit (.int 7))) (.lit (.int 8))) (.lit (.str [120])) (.lit (.str []))))) (.cons (.asg 8 (.bin .add (.ife (.bin .mod (.bin .fdiv (.idx (.loc 2) (.lit (.int 7))) (.lit (.int 4))) (.lit (.int 2))) (.lit (.str [119])) (.lit (.str []))) (.ife (.bin .fdiv (.idx (.loc 2) (.lit (.int 7))) (.lit (.int 8))) (.lit (.str [120])) (.lit (.str []))))) (.cons (.asg 9 (.dict .nil .nil)) (.cons (.for_ 10 (.loc 3) b14_4) (.cons (.asg 11 (.bm .join (.lit (.str [])) (.cons (.comp (.boolop false (.cons (.slice (.loc 1) (.lit (.int 8)) (.lit (.none))) (.cons (.loc 1) .nil))) [none,none,some 3] 1 .nil (.idx (.loc 2) (.bin .mod (.loc 1) (.lit (.int 8))))) .nil))) (.cons (.asg 12 (.bm .join (.lit (.str [])) (.cons (.comp (.loc 3) [none,none,some 4] 1 (.cons (.cmp .in_ (.idx (.loc 2) (.loc 1)) (.list (.cons (.lit (.int 2)) (.cons (.lit (.int 8)) (.cons (.lit (.int 9)) (.cons (.lit (.int 10)) (.cons (.lit (.int 11)) (.cons (.lit (.int 14)) (.cons (.lit (.int 15)) .nil))))))))) .nil) (.loc 1)) .nil))) (.cons (.asg 13 (.newC 0 (.cons (.loc 11) (.cons (.lit (.bool true)) (.cons (.loc 12) .nil))) [2,3])) (.cons (.asgA (.loc 13) 6 (.bin .add (.bm .join (.lit (.str [])) (.cons (.comp (.loc 3) [none,none,some 4] 1 (.cons (.cmp .in_ (.idx (.loc 2) (.loc 1)) (.list (.cons (.lit (.int 3)) (.cons (.lit (.int 14)) .nil)))) .nil) (.loc 1)) .nil)) (.loc 7))) (.cons (.asgA (.loc 13) 4 (.bin .add (.bm .join (.lit (.str [])) (.cons (.comp (.loc 3) [none,none,some 4] 1 (.cons (.cmp .in_ (.idx (.loc 2) (.loc 1)) (.list (.cons (.lit (.int 4)) (.cons (.lit (.int 15)) .nil)))) .nil) (.loc 1)) .nil)) (.loc 8))) (.cons (.asgA (.loc 13) 8 (.bm .join (.lit (.str [])) (.cons (.comp (.loc 3) [none,none,some 4] 1 (.cons (.cmp .in_ (.idx (.loc 2) (.loc 1)) (.list (.cons (.lit (.int 5)) (.cons (.lit (.int 6)) (.cons (.lit (.int 9)) (.cons (.lit (.int 10)) (.cons (.lit (.int 12)) .nil))))))) .nil) (.loc 1)) .nil))) (.cons (.asgA (.loc 13) 10 (.bm .join (.lit (.str [])) (.cons (.comp (.loc 3) [none,none,some 4] 1 (.cons (.cmp .in_ (.idx (.loc 2) (.loc 1)) (.list (.cons (.lit (.int 6)) (.cons (.lit (.int 10)) .nil)))) .nil) (.loc 1)) .nil))) (.cons (.asgA (.loc 13) 9 (.bm .join (.lit (.str [])) (.cons (.comp (.loc 3) [none,none,some 4] 1 (.cons (.cmp .in_ (.idx (.loc 2) (.loc 1)) (.list (.cons (.lit (.int 7)) (.cons (.lit (.int 11)) (.cons (.lit (.int 13)) .nil))))) .nil) (.loc 1)) .nil))) (.cons (.asgA (.loc 13) 5 (.bm .join (.lit (.str [])) (.cons (.comp (.loc 3) [none,none,some 4] 1 (.cons (.cmp .in_ (.idx (.loc 2) (.loc 1)) (.list (.cons (.lit (.int 1)) (.cons (.lit (.int 8)) (.cons (.lit (.int 12)) (.cons (.lit (.int 13)) .nil)))))) .nil) (.loc 1)) .nil))) (.cons (.asgA (.loc 13) 7 (.loc 6)) (.cons (.unp [14,15] (.callF 5 (.cons (.loc 11) (.cons (.loc 4) (.cons (.loc 9) (.cons (.loc 6) .nil)))))) (.cons (.asg 16 (.list .nil)) (.cons (.for_ 17 (.bi .range (.cons (.bin .add (.bi .len (.cons (.loc 11) .nil)) (.lit (.int 2))) .nil)) b14_7) (.cons (.ret (.cmp .eq (.loc 16) (.bin .add (.loc 14) (.bin .mul (.list (.cons (.loc 15) .nil)) (.bin .sub (.bin .add (.bi .len (.cons (.loc 11) .nil)) (.lit (.int 2))) (.bi .len (.cons (.loc 14) .nil))))))) (.nil))))))))))))))))))))))))
noncomputable def fn14:Fn:=⟨26,[3,4],[0],[],b14_8⟩
noncomputable def b15_0:Sts:=.cons (.asg 1 (.newC 1 (.cons (.loc 1) .nil) [])) (.nil)
noncomputable def b15_1:Sts:=.cons (.asgA (.loc 0) 0 (.loc 1)) (.cons (.asgA (.loc 0) 1 (.loc 2)) (.nil))
noncomputable def b15_2:Sts:=.cons (.asgA (.loc 0) 0 .bad) (.cons (.asgA (.loc 0) 1 (.lit (.none))) (.nil))
noncomputable def b15_3:Sts:=.cons (.asgA (.loc 0) 3 (.lit (.none))) (.nil)
noncomputable def b15_4:Sts:=.cons (.asgA (.loc 0) 3 (.lit (.str []))) (.nil)
noncomputable def b15_5:Sts:=.cons (.augA (.loc 0) 5 .add (.lit (.str [223,224,225,226,227,228,229,230,231,232,233,234,235,236,237,238,239,240,241,242,243,244,245,246,248,249,250,251,252,253,254,255,192,193,194,195,196,197,198,199,200,201,202,203,204,205,206,207,208,209,210,211,212,213,214,216,217,218,219,220,221,222]))) (.nil)
noncomputable def b15_6:Sts:=.cons (.asg 4 (.lit (.str []))) (.nil)
noncomputable def b15_7:Sts:=.cons (.asg 4 (.lit (.str [40,41,59,60,62,124,38]))) (.nil)
noncomputable def b15_8:Sts:=.cons (.if_ (.cmp .is_ (.loc 4) (.lit (.bool true))) b15_7 .nil) (.nil)
noncomputable def b15_9:Sts:=.cons (.asgA (.loc 0) 19 (.bi .deque .nil)) (.cons (.augA (.loc 0) 5 .add (.lit (.str [126,45,46,47,42,63,61]))) (.cons (.asg 5 (.bm .maketrans (.attr (.loc 0) 5) (.cons (.bi .fromkeys (.cons (.loc 4) .nil)) .nil))) (.cons (.asgA (.loc 0) 5 (.bm .translate (.attr (.loc 0) 5) (.cons (.loc 5) .nil))) (.nil))))
noncomputable def b15_10:Sts:=.cons (.if_ (.bi .isStr (.cons (.loc 1) .nil)) b15_0 .nil) (.cons (.if_ (.cmp .isNot (.loc 1) (.lit (.none))) b15_1 b15_2) (.cons (.asgA (.loc 0) 2 (.loc 3)) (.cons (.if_ (.loc 3) b15_3 b15_4) (.cons (.asgA (.loc 0) 4 (.lit (.str [35]))) (.cons (.asgA (.loc 0) 5 (.lit (.str [97,98,99,100,102,101,103,104,105,106,107,108,109,110,111,112,113,114,115,116,117,118,119,120,121,122,65,66,67,68,69,70,71,72,73,74,75,76,77,78,79,80,81,82,83,84,85,86,87,88,89,90,48,49,50,51,52,53,54,55,56,57,95]))) (.cons (.if_ (.attr (.loc 0) 2) b15_5 .nil) (.cons (.asgA (.loc 0) 6 (.lit (.str [32,9,13,10]))) (.cons (.asgA (.loc 0) 7 (.lit (.bool false))) (.cons (.asgA (.loc 0) 8 (.lit (.str [39,34]))) (.cons (.asgA (.loc 0) 9 (.lit (.str [92]))) (.cons (.asgA (.loc 0) 10 (.lit (.str [34]))) (.cons (.asgA (.loc 0) 11 (.lit (.str [32]))) (.cons (.asgA (.loc 0) 12 (.bi .deque .nil)) (.cons (.asgA (.loc 0) 13 (.lit (.int 1))) (.cons (.asgA (.loc 0) 14 (.lit (.int 0))) (.cons (.asgA (.loc 0) 15 (.lit (.str []))) (.cons (.asgA (.loc 0) 16 (.bi .deque .nil)) (.cons (.asgA (.loc 0) 17 (.lit (.none))) (.cons (.if_ (.not_ (.loc 4)) b15_6 b15_8) (.cons (.asgA (.loc 0) 18 (.loc 4)) (.cons (.if_ (.loc 4) b15_9 .nil) (.nil))))))))))))))))))))))
noncomputable def fn15:Fn:=⟨12,[],[0,1,2,3,4],[.none,.none,.bool false,.bool false],b15_10⟩
noncomputable def b16_0:Sts:=.cons (.ret (.attr (.loc 0) 18)) (.nil)
noncomputable def fn16:Fn:=⟨1,[],[0],[],b16_0⟩
noncomputable def b17_0:Sts:=.cons (.expr .bad) (.nil)
noncomputable def b17_1:Sts:=.cons (.asg 1 .bad) (.cons (.if_ (.cmp .ge (.attr (.loc 0) 14) (.lit (.int 1))) b17_0 .nil) (.cons (.ret (.loc 1)) (.nil)))
noncomputable def b17_2:Sts:=.cons (.bad) (.cons (.expr .bad) (.nil))
noncomputable def b17_3:Sts:=.cons (.asg 3 .bad) (.cons (.if_ (.loc 3) b17_2 .nil) (.cons (.asg 2 (.callM (.loc 0) 29 .nil)) (.nil)))
noncomputable def b17_4:Sts:=.cons (.while_ (.cmp .eq (.loc 2) (.attr (.loc 0) 17)) b17_3) (.nil)
noncomputable def b17_5:Sts:=.cons (.ret (.attr (.loc 0) 3)) (.nil)
noncomputable def b17_6:Sts:=.cons (.expr .bad) (.cons (.asg 2 (.callM (.loc 0) 29 .nil)) (.nil))
noncomputable def b17_7:Sts:=.cons (.if_ (.not_ (.attr (.loc 0) 16)) b17_5 b17_6) (.nil)
noncomputable def b17_8:Sts:=.cons (.expr .bad) (.nil)
noncomputable def b17_9:Sts:=.cons (.expr .bad) (.nil)
noncomputable def b17_10:Sts:=.cons (.if_ (.cmp .ne (.loc 2) (.attr (.loc 0) 3)) b17_8 b17_9) (.nil)
noncomputable def b17_11:Sts:=.cons (.if_ (.attr (.loc 0) 12) b17_1 .nil) (.cons (.asg 2 (.callM (.loc 0) 30 .nil)) (.cons (.if_ (.cmp .isNot (.attr (.loc 0) 17) (.lit (.none))) b17_4 .nil) (.cons (.while_ (.cmp .eq (.loc 2) (.attr (.loc 0) 3)) b17_7) (.cons (.if_ (.cmp .ge (.attr (.loc 0) 14) (.lit (.int 1))) b17_10 .nil) (.cons (.ret (.loc 2)) (.nil))))))
noncomputable def fn17:Fn:=⟨8,[],[0],[],b17_11⟩
noncomputable def b18_0:Sts:=.cons (.asg 3 (.bm .pop (.attr (.loc 0) 19) .nil)) (.nil)
noncomputable def b18_1:Sts:=.cons (.asg 3 (.callM (.attr (.loc 0) 0) 27 (.cons (.lit (.int 1)) .nil))) (.nil)
noncomputable def b18_2:Sts:=.cons (.augA (.loc 0) 13 .add (.lit (.int 1))) (.nil)
noncomputable def b18_3:Sts:=.cons (.expr .bad) (.nil)
noncomputable def b18_4:Sts:=.cons (.asgA (.loc 0) 15 (.lit (.str []))) (.cons (.brk) (.nil))
noncomputable def b18_5:Sts:=.cons (.asgA (.loc 0) 11 (.lit (.none))) (.cons (.brk) (.nil))
noncomputable def b18_6:Sts:=.cons (.expr .bad) (.nil)
noncomputable def b18_7:Sts:=.cons (.brk) (.nil)
noncomputable def b18_8:Sts:=.cons (.cont) (.nil)
noncomputable def b18_9:Sts:=.cons (.if_ (.cmp .ge (.attr (.loc 0) 14) (.lit (.int 2))) b18_6 .nil) (.cons (.if_ (.boolop false (.cons (.attr (.loc 0) 15) (.cons (.boolop true (.cons (.attr (.loc 0) 2) (.cons (.loc 1) .nil))) .nil))) b18_7 b18_8) (.nil))
noncomputable def b18_10:Sts:=.cons (.expr (.callM (.attr (.loc 0) 0) 28 .nil)) (.cons (.augA (.loc 0) 13 .add (.lit (.int 1))) (.nil))
noncomputable def b18_11:Sts:=.cons (.asg 2 (.lit (.str [97]))) (.cons (.asgA (.loc 0) 11 (.loc 3)) (.nil))
noncomputable def b18_12:Sts:=.cons (.asgA (.loc 0) 15 (.loc 3)) (.cons (.asgA (.loc 0) 11 (.lit (.str [97]))) (.nil))
noncomputable def b18_13:Sts:=.cons (.asgA (.loc 0) 15 (.loc 3)) (.cons (.asgA (.loc 0) 11 (.lit (.str [99]))) (.nil))
noncomputable def b18_14:Sts:=.cons (.asgA (.loc 0) 15 (.loc 3)) (.nil)
noncomputable def b18_15:Sts:=.cons (.if_ (.not_ (.attr (.loc 0) 2)) b18_14 .nil) (.cons (.asgA (.loc 0) 11 (.loc 3)) (.nil))
noncomputable def b18_16:Sts:=.cons (.asgA (.loc 0) 15 (.loc 3)) (.cons (.asgA (.loc 0) 11 (.lit (.str [97]))) (.nil))
noncomputable def b18_17:Sts:=.cons (.brk) (.nil)
noncomputable def b18_18:Sts:=.cons (.cont) (.nil)
noncomputable def b18_19:Sts:=.cons (.asgA (.loc 0) 15 (.loc 3)) (.cons (.if_ (.boolop false (.cons (.attr (.loc 0) 15) (.cons (.boolop true (.cons (.attr (.loc 0) 2) (.cons (.loc 1) .nil))) .nil))) b18_17 b18_18) (.nil))
noncomputable def b18_20:Sts:=.cons (.if_ (.attr (.loc 0) 7) b18_16 b18_19) (.nil)
noncomputable def b18_21:Sts:=.cons (.if_ (.cmp .in_ (.loc 3) (.attr (.loc 0) 8)) b18_15 b18_20) (.nil)
noncomputable def b18_22:Sts:=.cons (.if_ (.cmp .in_ (.loc 3) (.attr (.loc 0) 20)) b18_13 b18_21) (.nil)
noncomputable def b18_23:Sts:=.cons (.if_ (.cmp .in_ (.loc 3) (.attr (.loc 0) 5)) b18_12 b18_22) (.nil)
noncomputable def b18_24:Sts:=.cons (.if_ (.boolop true (.cons (.attr (.loc 0) 2) (.cons (.cmp .in_ (.loc 3) (.attr (.loc 0) 9)) .nil))) b18_11 b18_23) (.nil)
noncomputable def b18_25:Sts:=.cons (.if_ (.cmp .in_ (.loc 3) (.attr (.loc 0) 4)) b18_10 b18_24) (.nil)
noncomputable def b18_26:Sts:=.cons (.if_ (.cmp .in_ (.loc 3) (.attr (.loc 0) 6)) b18_9 b18_25) (.nil)
noncomputable def b18_27:Sts:=.cons (.if_ (.not_ (.loc 3)) b18_5 b18_26) (.nil)
noncomputable def b18_28:Sts:=.cons (.expr .bad) (.nil)
noncomputable def b18_29:Sts:=.cons (.if_ (.cmp .ge (.attr (.loc 0) 14) (.lit (.int 2))) b18_28 .nil) (.cons (.raise_ [78,111,32,99,108,111,115,105,110,103,32,113,117,111,116,97,116,105,111,110]) (.nil))
noncomputable def b18_30:Sts:=.cons (.augA (.loc 0) 15 .add (.loc 3)) (.cons (.asgA (.loc 0) 11 (.lit (.str [32]))) (.cons (.brk) (.nil)))
noncomputable def b18_31:Sts:=.cons (.asgA (.loc 0) 11 (.lit (.str [97]))) (.nil)
noncomputable def b18_32:Sts:=.cons (.if_ (.not_ (.attr (.loc 0) 2)) b18_30 b18_31) (.nil)
noncomputable def b18_33:Sts:=.cons (.asg 2 (.attr (.loc 0) 11)) (.cons (.asgA (.loc 0) 11 (.loc 3)) (.nil))
noncomputable def b18_34:Sts:=.cons (.augA (.loc 0) 15 .add (.loc 3)) (.nil)
noncomputable def b18_35:Sts:=.cons (.if_ (.boolop true (.cons (.attr (.loc 0) 2) (.cons (.cmp .in_ (.loc 3) (.attr (.loc 0) 9)) (.cons (.cmp .in_ (.attr (.loc 0) 11) (.attr (.loc 0) 10)) .nil)))) b18_33 b18_34) (.nil)
noncomputable def b18_36:Sts:=.cons (.asg 1 (.lit (.bool true))) (.cons (.if_ (.not_ (.loc 3)) b18_29 .nil) (.cons (.if_ (.cmp .eq (.loc 3) (.attr (.loc 0) 11)) b18_32 b18_35) (.nil)))
noncomputable def b18_37:Sts:=.cons (.expr .bad) (.nil)
noncomputable def b18_38:Sts:=.cons (.if_ (.cmp .ge (.attr (.loc 0) 14) (.lit (.int 2))) b18_37 .nil) (.cons (.raise_ [78,111,32,101,115,99,97,112,101,100,32,99,104,97,114,97,99,116,101,114]) (.nil))
noncomputable def b18_39:Sts:=.cons (.augA (.loc 0) 15 .add (.attr (.loc 0) 11)) (.nil)
noncomputable def b18_40:Sts:=.cons (.if_ (.not_ (.loc 3)) b18_38 .nil) (.cons (.if_ (.boolop true (.cons (.cmp .in_ (.loc 2) (.attr (.loc 0) 8)) (.cons (.cmp .ne (.loc 3) (.attr (.loc 0) 11)) (.cons (.cmp .ne (.loc 3) (.loc 2)) .nil)))) b18_39 .nil) (.cons (.augA (.loc 0) 15 .add (.loc 3)) (.cons (.asgA (.loc 0) 11 (.loc 2)) (.nil))))
noncomputable def b18_41:Sts:=.cons (.asgA (.loc 0) 11 (.lit (.none))) (.cons (.brk) (.nil))
noncomputable def b18_42:Sts:=.cons (.expr .bad) (.nil)
noncomputable def b18_43:Sts:=.cons (.brk) (.nil)
noncomputable def b18_44:Sts:=.cons (.cont) (.nil)
noncomputable def b18_45:Sts:=.cons (.if_ (.cmp .ge (.attr (.loc 0) 14) (.lit (.int 2))) b18_42 .nil) (.cons (.asgA (.loc 0) 11 (.lit (.str [32]))) (.cons (.if_ (.boolop false (.cons (.attr (.loc 0) 15) (.cons (.boolop true (.cons (.attr (.loc 0) 2) (.cons (.loc 1) .nil))) .nil))) b18_43 b18_44) (.nil)))
noncomputable def b18_46:Sts:=.cons (.brk) (.nil)
noncomputable def b18_47:Sts:=.cons (.cont) (.nil)
noncomputable def b18_48:Sts:=.cons (.asgA (.loc 0) 11 (.lit (.str [32]))) (.cons (.if_ (.boolop false (.cons (.attr (.loc 0) 15) (.cons (.boolop true (.cons (.attr (.loc 0) 2) (.cons (.loc 1) .nil))) .nil))) b18_46 b18_47) (.nil))
noncomputable def b18_49:Sts:=.cons (.expr (.callM (.attr (.loc 0) 0) 28 .nil)) (.cons (.augA (.loc 0) 13 .add (.lit (.int 1))) (.cons (.if_ (.attr (.loc 0) 2) b18_48 .nil) (.nil)))
noncomputable def b18_50:Sts:=.cons (.augA (.loc 0) 15 .add (.loc 3)) (.nil)
noncomputable def b18_51:Sts:=.cons (.expr (.bm .append (.attr (.loc 0) 19) (.cons (.loc 3) .nil))) (.nil)
noncomputable def b18_52:Sts:=.cons (.if_ (.cmp .notIn (.loc 3) (.attr (.loc 0) 6)) b18_51 .nil) (.cons (.asgA (.loc 0) 11 (.lit (.str [32]))) (.cons (.brk) (.nil)))
noncomputable def b18_53:Sts:=.cons (.if_ (.cmp .in_ (.loc 3) (.attr (.loc 0) 20)) b18_50 b18_52) (.nil)
noncomputable def b18_54:Sts:=.cons (.asgA (.loc 0) 11 (.loc 3)) (.nil)
noncomputable def b18_55:Sts:=.cons (.asg 2 (.lit (.str [97]))) (.cons (.asgA (.loc 0) 11 (.loc 3)) (.nil))
noncomputable def b18_56:Sts:=.cons (.augA (.loc 0) 15 .add (.loc 3)) (.nil)
noncomputable def b18_57:Sts:=.cons (.expr (.bm .append (.attr (.loc 0) 19) (.cons (.loc 3) .nil))) (.nil)
noncomputable def b18_58:Sts:=.cons (.expr .bad) (.nil)
noncomputable def b18_59:Sts:=.cons (.expr .bad) (.nil)
noncomputable def b18_60:Sts:=.cons (.brk) (.nil)
noncomputable def b18_61:Sts:=.cons (.cont) (.nil)
noncomputable def b18_62:Sts:=.cons (.if_ (.attr (.loc 0) 20) b18_57 b18_58) (.cons (.if_ (.cmp .ge (.attr (.loc 0) 14) (.lit (.int 2))) b18_59 .nil) (.cons (.asgA (.loc 0) 11 (.lit (.str [32]))) (.cons (.if_ (.boolop false (.cons (.attr (.loc 0) 15) (.cons (.boolop true (.cons (.attr (.loc 0) 2) (.cons (.loc 1) .nil))) .nil))) b18_60 b18_61) (.nil))))
noncomputable def b18_63:Sts:=.cons (.if_ (.boolop false (.cons (.cmp .in_ (.loc 3) (.attr (.loc 0) 5)) (.cons (.cmp .in_ (.loc 3) (.attr (.loc 0) 8)) (.cons (.boolop true (.cons (.attr (.loc 0) 7) (.cons (.cmp .notIn (.loc 3) (.attr (.loc 0) 20)) .nil))) .nil)))) b18_56 b18_62) (.nil)
noncomputable def b18_64:Sts:=.cons (.if_ (.boolop true (.cons (.attr (.loc 0) 2) (.cons (.cmp .in_ (.loc 3) (.attr (.loc 0) 9)) .nil))) b18_55 b18_63) (.nil)
noncomputable def b18_65:Sts:=.cons (.if_ (.boolop true (.cons (.attr (.loc 0) 2) (.cons (.cmp .in_ (.loc 3) (.attr (.loc 0) 8)) .nil))) b18_54 b18_64) (.nil)
noncomputable def b18_66:Sts:=.cons (.if_ (.cmp .eq (.attr (.loc 0) 11) (.lit (.str [99]))) b18_53 b18_65) (.nil)
noncomputable def b18_67:Sts:=.cons (.if_ (.cmp .in_ (.loc 3) (.attr (.loc 0) 4)) b18_49 b18_66) (.nil)
noncomputable def b18_68:Sts:=.cons (.if_ (.cmp .in_ (.loc 3) (.attr (.loc 0) 6)) b18_45 b18_67) (.nil)
noncomputable def b18_69:Sts:=.cons (.if_ (.not_ (.loc 3)) b18_41 b18_68) (.nil)
noncomputable def b18_70:Sts:=.cons (.if_ (.cmp .in_ (.attr (.loc 0) 11) (.tup (.cons (.lit (.str [97])) (.cons (.lit (.str [99])) .nil)))) b18_69 .nil) (.nil)
noncomputable def b18_71:Sts:=.cons (.if_ (.cmp .in_ (.attr (.loc 0) 11) (.attr (.loc 0) 9)) b18_40 b18_70) (.nil)
noncomputable def b18_72:Sts:=.cons (.if_ (.cmp .in_ (.attr (.loc 0) 11) (.attr (.loc 0) 8)) b18_36 b18_71) (.nil)
noncomputable def b18_73:Sts:=.cons (.if_ (.cmp .eq (.attr (.loc 0) 11) (.lit (.str [32]))) b18_27 b18_72) (.nil)
noncomputable def b18_74:Sts:=.cons (.if_ (.boolop true (.cons (.attr (.loc 0) 20) (.cons (.attr (.loc 0) 19) .nil))) b18_0 b18_1) (.cons (.if_ (.cmp .eq (.loc 3) (.lit (.str [10]))) b18_2 .nil) (.cons (.if_ (.cmp .ge (.attr (.loc 0) 14) (.lit (.int 3))) b18_3 .nil) (.cons (.if_ (.cmp .is_ (.attr (.loc 0) 11) (.lit (.none))) b18_4 b18_73) (.nil))))
noncomputable def b18_75:Sts:=.cons (.asg 4 (.lit (.none))) (.nil)
noncomputable def b18_76:Sts:=.cons (.expr .bad) (.nil)
noncomputable def b18_77:Sts:=.cons (.expr .bad) (.nil)
noncomputable def b18_78:Sts:=.cons (.if_ (.loc 4) b18_76 b18_77) (.nil)
noncomputable def b18_79:Sts:=.cons (.asg 1 (.lit (.bool false))) (.cons (.asg 2 (.lit (.str [32]))) (.cons (.while_ (.lit (.bool true)) b18_74) (.cons (.asg 4 (.attr (.loc 0) 15)) (.cons (.asgA (.loc 0) 15 (.lit (.str []))) (.cons (.if_ (.boolop true (.cons (.attr (.loc 0) 2) (.cons (.not_ (.loc 1)) (.cons (.cmp .eq (.loc 4) (.lit (.str []))) .nil)))) b18_75 .nil) (.cons (.if_ (.cmp .gt (.attr (.loc 0) 14) (.lit (.int 1))) b18_78 .nil) (.cons (.ret (.loc 4)) (.nil))))))))
noncomputable def fn18:Fn:=⟨8,[],[0],[],b18_79⟩
noncomputable def b19_0:Sts:=.cons (.expr .bad) (.nil)
noncomputable def b19_1:Sts:=.cons (.bad) (.nil)
noncomputable def b19_2:Sts:=.cons (.expr .bad) (.nil)
noncomputable def b19_3:Sts:=.cons (.asgA (.loc 0) 22 (.callM (.loc 0) 25 (.cons (.loc 1) .nil))) (.nil)
noncomputable def b19_4:Sts:=.cons (.if_ (.boolop true (.cons (.cmp .isNot (.loc 2) (.lit (.none))) (.cons (.cmp .isNot (.bi .typ (.cons (.loc 2) .nil)) (.lit (.typ 2))) .nil))) b19_0 .nil) (.cons (.if_ (.boolop true (.cons (.cmp .isNot (.loc 2) (.lit (.none))) (.cons (.cmp .ne (.loc 2) (.lit (.str []))) (.cons (.cmp .ne (.loc 2) (.lit (.str [10]))) (.cons (.cmp .ne (.loc 2) (.lit (.str [13]))) (.cons (.cmp .ne (.loc 2) (.lit (.str [13,10]))) .nil)))))) b19_1 .nil) (.cons (.if_ (.boolop true (.cons (.cmp .isNot (.loc 1) (.lit (.none))) (.cons (.cmp .isNot (.bi .typ (.cons (.loc 1) .nil)) (.lit (.typ 2))) .nil))) b19_2 .nil) (.cons (.asgA (.loc 0) 21 (.loc 2)) (.cons (.asgA (.loc 0) 22 (.lit (.str []))) (.cons (.asgA (.loc 0) 23 (.lit (.int 0))) (.cons (.if_ (.cmp .isNot (.loc 1) (.lit (.none))) b19_3 .nil) (.nil)))))))
noncomputable def fn19:Fn:=⟨7,[],[0,1,2],[.str [],.str [10]],b19_4⟩
noncomputable def b20_0:Sts:=.cons (.ret .bad) (.nil)
noncomputable def b20_1:Sts:=.cons (.ret .bad) (.nil)
noncomputable def b20_2:Sts:=.cons (.asg 2 (.attr (.loc 0) 21)) (.cons (.if_ (.cmp .is_ (.loc 2) (.lit (.none))) b20_0 .nil) (.cons (.if_ (.boolop false (.cons (.cmp .eq (.loc 2) (.lit (.str [13]))) (.cons (.cmp .eq (.loc 2) (.lit (.str [13,10]))) .nil))) b20_1 .nil) (.cons (.ret (.loc 1)) (.nil))))
noncomputable def fn20:Fn:=⟨3,[],[0,1],[],b20_2⟩
noncomputable def b21_0:Sts:=.cons (.raise_ [73,47,79,32,111,112,101,114,97,116,105,111,110,32,111,110,32,99,108,111,115,101,100,32,102,105,108,101]) (.nil)
noncomputable def b21_1:Sts:=.cons (.if_ (.cmp .is_ (.attr (.loc 0) 22) (.lit (.none))) b21_0 .nil) (.nil)
noncomputable def fn21:Fn:=⟨2,[],[0],[],b21_1⟩
noncomputable def b22_0:Sts:=.cons (.ret (.lit (.str []))) (.nil)
noncomputable def b22_1:Sts:=.cons (.asg 3 (.bin .add (.loc 2) (.loc 1))) (.cons (.asg 4 (.lit (.bool true))) (.nil))
noncomputable def b22_2:Sts:=.cons (.asg 3 (.ife (.cmp .eq (.idx (.attr (.loc 0) 22) (.bin .add (.loc 7) (.lit (.int 1)))) (.lit (.str [10]))) (.bin .add (.loc 7) (.lit (.int 2))) (.bin .add (.loc 7) (.lit (.int 1))))) (.nil)
noncomputable def b22_3:Sts:=.cons (.expr .bad) (.nil)
noncomputable def b22_4:Sts:=.cons (.if_ (.boolop true (.cons (.loc 4) (.cons (.cmp .eq (.idx (.attr (.loc 0) 22) (.bin .add (.loc 7) (.lit (.int 1)))) (.lit (.str [10]))) .nil))) b22_3 .nil) (.cons (.asg 3 (.bin .add (.loc 7) (.lit (.int 1)))) (.nil))
noncomputable def b22_5:Sts:=.cons (.if_ (.cmp .lt (.bin .add (.loc 7) (.lit (.int 1))) (.loc 3)) b22_2 b22_4) (.nil)
noncomputable def b22_6:Sts:=.cons (.asg 3 (.bin .add (.loc 6) (.lit (.int 1)))) (.nil)
noncomputable def b22_7:Sts:=.cons (.if_ (.cmp .ge (.loc 6) (.lit (.int 0))) b22_6 .nil) (.nil)
noncomputable def b22_8:Sts:=.cons (.asg 6 (.bm .find (.attr (.loc 0) 22) (.cons (.lit (.str [10])) (.cons (.loc 2) (.cons (.loc 3) .nil))))) (.cons (.asg 7 (.bm .find (.attr (.loc 0) 22) (.cons (.lit (.str [13])) (.cons (.loc 2) (.cons (.loc 3) .nil))))) (.cons (.if_ (.boolop true (.cons (.cmp .ge (.loc 7) (.lit (.int 0))) (.cons (.boolop false (.cons (.cmp .lt (.loc 6) (.lit (.int 0))) (.cons (.cmp .lt (.loc 7) (.loc 6)) .nil))) .nil))) b22_5 b22_7) (.nil)))
noncomputable def b22_9:Sts:=.cons (.expr .bad) (.nil)
noncomputable def b22_10:Sts:=.cons (.asg 3 (.bin .add (.loc 6) (.bi .len (.cons (.loc 8) .nil)))) (.nil)
noncomputable def b22_11:Sts:=.cons (.asg 8 (.ife (.cmp .is_ (.loc 5) (.lit (.none))) (.lit (.str [10])) (.loc 5))) (.cons (.if_ (.boolop true (.cons (.loc 4) (.cons (.cmp .eq (.loc 8) (.lit (.str [13,10]))) (.cons (.cmp .gt (.loc 3) (.loc 2)) (.cons (.cmp .eq (.idx (.attr (.loc 0) 22) (.bin .sub (.loc 3) (.lit (.int 1)))) (.lit (.str [13]))) .nil))))) b22_9 .nil) (.cons (.asg 6 (.bm .find (.attr (.loc 0) 22) (.cons (.loc 8) (.cons (.loc 2) (.cons (.loc 3) .nil))))) (.cons (.if_ (.cmp .ge (.loc 6) (.lit (.int 0))) b22_10 .nil) (.nil))))
noncomputable def b22_12:Sts:=.cons (.asg 2 (.attr (.loc 0) 23)) (.cons (.asg 3 (.bi .len (.cons (.attr (.loc 0) 22) .nil))) (.cons (.if_ (.cmp .ge (.loc 2) (.loc 3)) b22_0 .nil) (.cons (.asg 4 (.lit (.bool false))) (.cons (.if_ (.boolop true (.cons (.cmp .ge (.loc 1) (.lit (.int 0))) (.cons (.cmp .lt (.bin .add (.loc 2) (.loc 1)) (.loc 3)) .nil))) b22_1 .nil) (.cons (.asg 5 (.attr (.loc 0) 21)) (.cons (.if_ (.cmp .eq (.loc 5) (.lit (.str []))) b22_8 b22_11) (.cons (.asgA (.loc 0) 23 (.loc 3)) (.cons (.ret (.slice (.bin .add (.slice (.attr (.loc 0) 22) (.loc 2) (.loc 3)) (.lit (.str [32]))) (.lit (.none)) (.neg (.lit (.int 1))))) (.nil)))))))))
noncomputable def fn22:Fn:=⟨11,[],[0,1],[],b22_12⟩
noncomputable def b23_0:Sts:=.cons (.asg 1 (.neg (.lit (.int 1)))) (.nil)
noncomputable def b23_1:Sts:=.cons (.ret (.lit (.str []))) (.nil)
noncomputable def b23_2:Sts:=.cons (.asg 3 (.bin .add (.loc 2) (.loc 1))) (.nil)
noncomputable def b23_3:Sts:=.cons (.if_ (.cmp .is_ (.loc 1) (.lit (.none))) b23_0 .nil) (.cons (.asg 1 (.callF 0 (.cons (.loc 1) (.cons (.lit (.str [83,116,114,105,110,103,73,79,46,114,101,97,100,32,111,102,32,97,32,115,105,122,101,32,116,104,97,116,32,105,115,32,110,111,32,101,120,97,99,116,32,105,110,116])) .nil)))) (.cons (.expr (.callM (.loc 0) 24 .nil)) (.cons (.asg 2 (.attr (.loc 0) 23)) (.cons (.asg 3 (.bi .len (.cons (.attr (.loc 0) 22) .nil))) (.cons (.if_ (.cmp .ge (.loc 2) (.loc 3)) b23_1 .nil) (.cons (.if_ (.boolop true (.cons (.cmp .ge (.loc 1) (.lit (.int 0))) (.cons (.cmp .lt (.bin .add (.loc 2) (.loc 1)) (.loc 3)) .nil))) b23_2 .nil) (.cons (.asgA (.loc 0) 23 (.loc 3)) (.cons (.ret (.slice (.bin .add (.slice (.attr (.loc 0) 22) (.loc 2) (.loc 3)) (.lit (.str [32]))) (.lit (.none)) (.neg (.lit (.int 1))))) (.nil)))))))))
noncomputable def fn23:Fn:=⟨6,[],[0,1],[.int (-1)],b23_3⟩
noncomputable def b24_0:Sts:=.cons (.asg 1 (.neg (.lit (.int 1)))) (.nil)
noncomputable def b24_1:Sts:=.cons (.if_ (.cmp .is_ (.loc 1) (.lit (.none))) b24_0 .nil) (.cons (.asg 1 (.callF 0 (.cons (.loc 1) (.cons (.lit (.str [83,116,114,105,110,103,73,79,46,114,101,97,100,108,105,110,101,32,111,102,32,97,32,115,105,122,101,32,116,104,97,116,32,105,115,32,110,111,32,101,120,97,99,116,32,105,110,116])) .nil)))) (.cons (.expr (.callM (.loc 0) 24 .nil)) (.cons (.ret (.callM (.loc 0) 26 (.cons (.loc 1) .nil))) (.nil))))
noncomputable def fn24:Fn:=⟨3,[],[0,1],[.int (-1)],b24_1⟩
noncomputable def tab:Tab where
  fns g:=match g with
    | 0=>some fn0 | 1=>some fn1 | 3=>some fn3 | 5=>some fn5 | 6=>some fn6 | 14=>some fn14 | 15=>some fn15 | 16=>some fn16 | 17=>some fn17 | 18=>some fn18 | 19=>some fn19 | 20=>some fn20 | 21=>some fn21 | 22=>some fn22 | 23=>some fn23 | 24=>some fn24 | _=>none
  meth c m:=if c == 0 then (if m == 29 then some 17 else if m == 30 then some 18 else none) else (if m == 24 then some 21 else if m == 25 then some 20 else if m == 26 then some 22 else if m == 27 then some 23 else if m == 28 then some 24 else none)
  prop c a:=if c == 0&&a == 20 then some 16 else none
  init c:=if c == 0 then some 15 else some 19
  hd:=false
end Mine.L2
end
section
open PySem
set_option backward.match.sparseCases false
set_option tactic.hygienic false
namespace Mine.L2
open Mine
structure Lx where
  cm:List Nat
  wc:List Nat
  ws:List Nat
  sp:Bool
  qs:List Nat
  es:List Nat
  eq:List Nat
  st:V
  ln:Int
  tok:List Nat
  pu:List Nat
  buf:List Nat
  pos:Int
  pb:List V
structure G where
  (c0 c1 c2 c3 c4 c5 c6 c7 c8 c9 c10 k o x0 x1 x2 x3 x4 x5 y0 y1:AO)
noncomputable def hp (g:G) (σ:Lx):List AO :=
  [g.c0,g.c1,g.c2,g.c3,g.c4,g.c5,g.c6,g.c7,g.c8,g.c9,g.c10,.attrs [(0,.obj 14),(1,.none),(2,.bool true),(3,.none),(4,.str σ.cm),(5,.str σ.wc),(6,.str σ.ws),(7,.bool σ.sp),(8,.str σ.qs),(9,.str σ.es),(10,.str σ.eq),(11,σ.st),(12,.obj 15),(13,.int σ.ln),
    (14,.int 0),(15,.str σ.tok),(16,.obj 16),(17,.none),(18,.str σ.pu),(19,.obj 17)],.inst 0 11,.attrs [(21,.str [10]),(22,.str σ.buf),(23,.int σ.pos)],.inst 1 13,.deque [],.deque [],.deque σ.pb,g.k,g.o,g.x0,g.x1,g.x2,g.x3,g.x4,g.x5,g.y0,g.y1]
noncomputable def rl (q:Bool) (esc:List Nat) (nc r:LV):List LV:=[.val (.obj 12),.val (.bool q),.val (.str esc),nc,r,.un,.un,.un]
section
variable {T:Tab} {cf:Nat→List V→List AO→R V} {K:Nat} {c:Ex} {x y:Sts} {l:List LV} {s s':List AO} {b:Bool}
theorem xcons {a:St} {as:Sts}:execs T cf K (.cons a as) l s=(execS T cf K a l s).seq (execs T cf K as):=rfl
set_option tactic.hygienic true in
theorem xnil:execs T cf K .nil l s=.next l s:=rfl
theorem xif (h:evalE T cf K l true c s=.ok (.bool b) s'):execS T cf K (.if_ c x y) l s=if b=true then execs T cf K x l s' else execs T cf K y l s':=by
  show (evalE T cf K l true c s).st l _=_
  rw [h]; cases b<;>rfl
theorem xone {a:St}:execs T cf K (.cons a .nil) l s=execS T cf K a l s:=by
  show (execS T cf K a l s).seq _=_
  cases execS T cf K a l s<;>rfl
theorem blk {B:Sts} (hb:B=.cons (.if_ c x y) .nil) (h:evalE T cf K l true c s=.ok (.bool b) s'):execs T cf K B l s=if b=true then execs T cf K x l s' else execs T cf K y l s':=by
  rw [hb,xone,xif h]
theorem blkT {B:Sts} (hb:B=.cons (.if_ c x y) .nil) (h:evalE T cf K l true c s=.ok (.bool true) s'):execs T cf K B l s=execs T cf K x l s':=(blk hb h).trans (if_pos rfl)
theorem blkF {B:Sts} (hb:B=.cons (.if_ c x y) .nil) (h:evalE T cf K l true c s=.ok (.bool false) s'):execs T cf K B l s=execs T cf K y l s':=(blk hb h).trans (if_neg Bool.false_ne_true)
end
noncomputable def lnA (c:Nat) (n:Int):Int:=if c=10 then n+1 else n
noncomputable abbrev chV (c:Nat):LV:=.val (.str [c])
section
variable {g:G} {σ:Lx} {K d:Nat} {q:Bool} {esc:List Nat} {nc r:LV} {c:Nat} {p0:Nat} {ps:List Nat} {t:List Nat} {w:List Nat} {pos':Int} {st:V} {s0 b:Nat}
theorem one_eq {a b:Nat}:(([a]:List Nat) == [b])=(a == b):=Bool.and_true (a == b)
theorem nlS:execS tab (callF tab K (d+1)) K (.if_ (.cmp .eq (.loc 3) (.lit (.str [10]))) b18_2 .nil) (rl q esc (chV c) r) (hp g σ)=.next (rl q esc (chV c) r) (hp g { σ with ln:=lnA c σ.ln }):=by
  have h:evalE tab (callF tab K (d+1)) K (rl q esc (chV c) r) true (.cmp .eq (.loc 3) (.lit (.str [10]))) (hp g σ)=.ok (.bool ([c] == [10])) (hp g σ):=by rfl
  rw [xif h,one_eq]
  unfold lnA
  by_cases hc:c=10
  · rw [if_pos (beq_iff_eq.mpr hc),if_pos hc]
    rfl
  · rw [if_neg (fun e=>hc (beq_iff_eq.mp e)),if_neg hc]
    rfl
noncomputable abbrev S32 (σ:Lx):Lx:={ σ with tok:=[],st:=.str [32] }
noncomputable abbrev Sa (σ:Lx) (t:List Nat):Lx:={ σ with tok:=t,st:=.str [97] }
noncomputable abbrev Sc (σ:Lx) (t:List Nat):Lx:={ σ with tok:=t,st:=.str [99] }
noncomputable abbrev Sq (σ:Lx) (s0:Nat) (t:List Nat):Lx:={ σ with tok:=t,st:=.str [s0] }
noncomputable def RdL (g:G) (K d:Nat) (σ:Lx) (pos':Int):Prop:=∃ w,callF tab K (d+1) 24 [.obj 14] (hp g σ)=.ok (.str w) (hp g { σ with pos:=pos' })
theorem rdl (h:RdL g K d σ pos'):execS tab (callF tab K (d+1)) K (.expr (.callM (.attr (.loc 0) 0) 28 .nil)) (rl q esc (chV c) r) (hp g σ)=.next (rl q esc (chV c) r) (hp g { σ with pos:=pos' }):=by
  obtain ⟨w,h⟩:=h
  have e:evalE tab (callF tab K (d+1)) K (rl q esc (chV c) r) false (.callM (.attr (.loc 0) 0) 28 .nil) (hp g σ)=.ok (.str w) (hp g { σ with pos:=pos' }):=h
  exact expr_ok e rfl
theorem rdlC {B:Sts} (h:RdL g K d σ pos'):execs tab (callF tab K (d+1)) K (.cons (.expr (.callM (.attr (.loc 0) 0) 28 .nil)) (.cons (.augA (.loc 0) 13 .add (.lit (.int 1))) B)) (rl q esc (chV c) r) (hp g σ)=execs tab (callF tab K (d+1)) K B (rl q esc (chV c) r) (hp g { σ with pos:=pos',ln:=σ.ln+1 }):=by
  rw [seq_next (rdl h)]
  rfl
noncomputable abbrev brkX:Ex:=.boolop false (.cons (.attr (.loc 0) 15) (.cons (.boolop true (.cons (.attr (.loc 0) 2) (.cons (.loc 1) .nil))) .nil))
theorem brk_yes {x:Sts} (h:σ.tok ≠ [] ∨ q=true):execs tab (callF tab K (d+1)) K (.cons (.if_ brkX (.cons .brk .nil) x) .nil) (rl q esc nc r) (hp g σ)=.brk (rl q esc nc r) (hp g σ):=by
  have e:evalE tab (callF tab K (d+1)) K (rl q esc nc r) true brkX (hp g σ)=.ok (.bool true) (hp g σ):=by
    obtain ⟨cm,wc,ws,sp,qs,es,eq,st,ln,tok,pu,buf,pos,pb⟩:=σ
    cases tok with
    | cons a r=>rfl
    | nil =>
      have h:q=true:=h.elim (fun h=>absurd rfl h) id
      rw [h]; rfl
  exact (blkT rfl e).trans rfl
theorem t26 (h:σ.cm.contains c=true→RdL g K d (S32 σ) pos'):execs tab (callF tab K (d+1)) K b18_26 (rl false esc (chV c) r) (hp g (S32 σ)) =
    if σ.ws.contains c=true then .cont (rl false esc (chV c) r) (hp g (S32 σ))
    else if σ.cm.contains c=true then .next (rl false esc (chV c) r) (hp g { S32 σ with pos:=pos',ln:=σ.ln+1 })
    else if σ.es.contains c=true then .next (rl false [97] (chV c) r) (hp g (Sq σ c []))
    else if σ.wc.contains c=true then .next (rl false esc (chV c) r) (hp g (Sa σ [c]))
    else if σ.pu.contains c=true then .next (rl false esc (chV c) r) (hp g (Sc σ [c]))
    else if σ.qs.contains c=true then .next (rl false esc (chV c) r) (hp g (Sq σ c []))
    else if σ.sp=true then .next (rl false esc (chV c) r) (hp g (Sa σ [c]))
    else .brk (rl false esc (chV c) r) (hp g { S32 σ with tok:=[c] }):=by
  rw [blk (B:=b18_26) (b:=σ.ws.contains c) (s':=hp g (S32 σ)) rfl rfl]
  split
  · rfl
  rw [blk (B:=b18_25) (b:=σ.cm.contains c) (s':=hp g (S32 σ)) rfl rfl]
  split
  · rename_i hc
    exact rdlC (h hc)
  have e24:evalE tab (callF tab K (d+1)) K (rl false esc (chV c) r) true (.boolop true (.cons (.attr (.loc 0) 2) (.cons (.cmp .in_ (.loc 3) (.attr (.loc 0) 9)) .nil))) (hp g (S32 σ))=.ok (.bool (σ.es.contains c)) (hp g (S32 σ)):=and_t rfl rfl
  rw [blk (B:=b18_24) rfl e24]
  split
  · rfl
  rw [blk (B:=b18_23) (b:=σ.wc.contains c) (s':=hp g (S32 σ)) rfl rfl]
  split
  · rfl
  rw [blk (B:=b18_22) (b:=σ.pu.contains c) (s':=hp g (S32 σ)) rfl rfl]
  split
  · rfl
  rw [blk (B:=b18_21) (b:=σ.qs.contains c) (s':=hp g (S32 σ)) rfl rfl]
  split
  · rfl
  rw [blk (B:=b18_20) (b:=σ.sp) (s':=hp g (S32 σ)) rfl rfl]
  split
  · rfl
  · rfl
theorem way32:execs tab (callF tab K (d+1)) K b18_73 (rl q esc (chV c) r) (hp g (S32 σ))=execs tab (callF tab K (d+1)) K b18_26 (rl q esc (chV c) r) (hp g (S32 σ)):=by
  rw [blkT (B:=b18_73) (s':=hp g (S32 σ)) rfl rfl,blkF (B:=b18_27) (s':=hp g (S32 σ)) rfl rfl]
theorem way32e:execs tab (callF tab K (d+1)) K b18_73 (rl q esc (.val (.str [])) r) (hp g (S32 σ))=.brk (rl q esc (.val (.str [])) r) (hp g { S32 σ with st:=.none }):=by
  rw [blkT (B:=b18_73) (s':=hp g (S32 σ)) rfl rfl]
  rfl
theorem augTok {e:Ex} {w:List Nat} (he:evalE tab (callF tab K (d+1)) K (rl q esc nc r) false e (hp g σ)=.ok (.str w) (hp g σ)) (hl:σ.tok.length+w.length ≤ lim):execS tab (callF tab K (d+1)) K (.augA (.loc 0) 15 .add e) (rl q esc nc r) (hp g σ)=.next (rl q esc nc r) (hp g { σ with tok:=σ.tok++w }):=by
  have e0:execS tab (callF tab K (d+1)) K (.augA (.loc 0) 15 .add e) (rl q esc nc r) (hp g σ)=(evalE tab (callF tab K (d+1)) K (rl q esc nc r) false e (hp g σ)).st (rl q esc nc r) fun b s=>(binOp s .add (.str σ.tok) b).st (rl q esc nc r) fun v s=>storeAttr tab (.obj 12) 15 v (rl q esc nc r) s:=by rfl
  rw [e0,he]
  show ((if σ.tok.length+w.length ≤ lim then (R.ok (V.str (σ.tok++w)) (hp g σ):R V) else .fail).st _ _)=_
  rw [if_pos hl]
  rfl
theorem st_no {n:LV} (h0:s0 ≠ 32):execs tab (callF tab K (d+1)) K b18_73 (rl q esc n r) (hp g (Sq σ s0 t))=execs tab (callF tab K (d+1)) K b18_72 (rl q esc n r) (hp g (Sq σ s0 t)):=by
  rw [blk (B:=b18_73) (b:=[s0] == [32]) (s':=hp g (Sq σ s0 t)) rfl rfl,one_eq,if_neg (fun e=>h0 (beq_iff_eq.mp e))]
theorem st_q {n:LV} (h0:s0 ≠ 32) (hq:σ.qs.contains s0=true):execs tab (callF tab K (d+1)) K b18_73 (rl q esc n r) (hp g (Sq σ s0 t))=execs tab (callF tab K (d+1)) K b18_36 (rl q esc n r) (hp g (Sq σ s0 t)):=by
  rw [st_no h0,blk (B:=b18_72) (b:=σ.qs.contains s0) (s':=hp g (Sq σ s0 t)) rfl rfl,if_pos hq]
theorem st_e {n:LV} (h0:s0 ≠ 32) (hq:σ.qs.contains s0=false):execs tab (callF tab K (d+1)) K b18_73 (rl q esc n r) (hp g (Sq σ s0 t))=if σ.es.contains s0=true then execs tab (callF tab K (d+1)) K b18_40 (rl q esc n r) (hp g (Sq σ s0 t)) else execs tab (callF tab K (d+1)) K b18_70 (rl q esc n r) (hp g (Sq σ s0 t)):=by
  rw [st_no h0,blk (B:=b18_72) (b:=σ.qs.contains s0) (s':=hp g (Sq σ s0 t)) rfl rfl,if_neg (by rw [hq]; exact Bool.false_ne_true),blk (B:=b18_71) (b:=σ.es.contains s0) (s':=hp g (Sq σ s0 t)) rfl rfl]
theorem wayQ (h0:s0 ≠ 32) (hq:σ.qs.contains s0=true) (hl:t.length+1 ≤ lim):execs tab (callF tab K (d+1)) K b18_73 (rl q esc (chV c) r) (hp g (Sq σ s0 t)) =
    if (c == s0)=true then .next (rl true esc (chV c) r) (hp g (Sa σ t))
    else if (σ.es.contains c&&σ.eq.contains s0)=true then .next (rl true [s0] (chV c) r) (hp g (Sq σ c t))
    else .next (rl true esc (chV c) r) (hp g (Sq σ s0 (t++[c]))):=by
  rw [st_q h0 hq]
  have e0:execs tab (callF tab K (d+1)) K b18_36 (rl q esc (chV c) r) (hp g (Sq σ s0 t))=execs tab (callF tab K (d+1)) K (.cons (.if_ (.cmp .eq (.loc 3) (.attr (.loc 0) 11)) b18_32 b18_35) .nil) (rl true esc (chV c) r) (hp g (Sq σ s0 t)):=by rfl
  rw [e0,blk (b:=[c] == [s0]) (s':=hp g (Sq σ s0 t)) rfl rfl,one_eq]
  split
  · rfl
  have e35:evalE tab (callF tab K (d+1)) K (rl true esc (chV c) r) true (.boolop true (.cons (.attr (.loc 0) 2) (.cons (.cmp .in_ (.loc 3) (.attr (.loc 0) 9)) (.cons (.cmp .in_ (.attr (.loc 0) 11) (.attr (.loc 0) 10)) .nil)))) (hp g (Sq σ s0 t))=.ok (.bool (σ.es.contains c&&σ.eq.contains s0)) (hp g (Sq σ s0 t)):=by
    show (R.bool (R.ok (.bool (σ.es.contains c)) (hp g (Sq σ s0 t))) fun b s=>if b == true then R.bool (R.ok (.bool (σ.eq.contains s0)) s) (fun b s=>if b == true then .ok (.bool true) s else .ok (.bool b) s) else .ok (.bool b) s)=_
    cases σ.es.contains c<;>cases σ.eq.contains s0<;>rfl
  rw [blk (B:=b18_35) rfl e35]
  split
  · rfl
  · exact xone.trans (augTok (σ:=Sq σ s0 t) (w:=[c]) rfl hl)
noncomputable abbrev noClose:List Nat:=[78,111,32,99,108,111,115,105,110,103,32,113,117,111,116,97,116,105,111,110]
noncomputable abbrev noEsc:List Nat:=[78,111,32,101,115,99,97,112,101,100,32,99,104,97,114,97,99,116,101,114]
theorem wayQe (h0:s0 ≠ 32) (hq:σ.qs.contains s0=true):execs tab (callF tab K (d+1)) K b18_73 (rl q esc (.val (.str [])) r) (hp g (Sq σ s0 t))=.exc 0 noClose (rl true esc (.val (.str [])) r) (hp g (Sq σ s0 t)):=by
  rw [st_q h0 hq]
  rfl
noncomputable def kept (P:Bool) (s0 b c:Nat):List Nat:=if (P&&(!(c == s0)&&!(c == b)))=true then [s0] else []
theorem wayE (h0:s0 ≠ 32) (hq:σ.qs.contains s0=false) (he:σ.es.contains s0=true) (hl:t.length+2 ≤ lim):execs tab (callF tab K (d+1)) K b18_73 (rl q [b] (chV c) r) (hp g (Sq σ s0 t))=.next (rl q [b] (chV c) r) (hp g (Sq σ b (t++kept (σ.qs.contains b) s0 b c++[c]))):=by
  rw [st_e h0 hq,if_pos he]
  have ec:evalE tab (callF tab K (d+1)) K (rl q [b] (chV c) r) true (.boolop true (.cons (.cmp .in_ (.loc 2) (.attr (.loc 0) 8)) (.cons (.cmp .ne (.loc 3) (.attr (.loc 0) 11)) (.cons (.cmp .ne (.loc 3) (.loc 2)) .nil)))) (hp g (Sq σ s0 t))=.ok (.bool (σ.qs.contains b&&(!(c == s0)&&!(c == b)))) (hp g (Sq σ s0 t)):=by
    show (R.bool (R.ok (.bool (σ.qs.contains b)) (hp g (Sq σ s0 t))) fun x s=>if x == true then R.bool (R.ok (.bool (!(([c]:List Nat) == [s0]))) s) (fun x s=>if x == true then R.bool (R.ok (.bool (!(([c]:List Nat) == [b]))) s) (fun x s=>if x == true then .ok (.bool true) s else .ok (.bool x) s) else .ok (.bool x) s) else .ok (.bool x) s)=_
    rw [one_eq,one_eq]
    cases σ.qs.contains b<;>cases (c == s0)<;>cases (c == b)<;>rfl
  have e0:execs tab (callF tab K (d+1)) K b18_40 (rl q [b] (chV c) r) (hp g (Sq σ s0 t))=(execS tab (callF tab K (d+1)) K (.if_ (.boolop true (.cons (.cmp .in_ (.loc 2) (.attr (.loc 0) 8)) (.cons (.cmp .ne (.loc 3) (.attr (.loc 0) 11)) (.cons (.cmp .ne (.loc 3) (.loc 2)) .nil)))) b18_39 .nil) (rl q [b] (chV c) r) (hp g (Sq σ s0 t))).seq
      (execs tab (callF tab K (d+1)) K (.cons (.augA (.loc 0) 15 .add (.loc 3)) (.cons (.asgA (.loc 0) 11 (.loc 2)) .nil))):=by rfl
  have e1:execS tab (callF tab K (d+1)) K (.if_ (.boolop true (.cons (.cmp .in_ (.loc 2) (.attr (.loc 0) 8)) (.cons (.cmp .ne (.loc 3) (.attr (.loc 0) 11)) (.cons (.cmp .ne (.loc 3) (.loc 2)) .nil)))) b18_39 .nil) (rl q [b] (chV c) r) (hp g (Sq σ s0 t))=.next (rl q [b] (chV c) r) (hp g (Sq σ s0 (t++kept (σ.qs.contains b) s0 b c))):=by
    rw [xif ec]
    unfold kept
    split
    · exact xone.trans (augTok (σ:=Sq σ s0 t) (w:=[s0]) rfl (Nat.le_of_succ_le hl))
    · rw [List.append_nil]; rfl
  have hk:(t++kept (σ.qs.contains b) s0 b c).length+1 ≤ lim:=by
    refine Nat.le_trans ?_ hl
    rw [List.length_append]
    unfold kept
    split<;>simp
  rw [e0,e1]
  show execs tab (callF tab K (d+1)) K _ (rl q [b] (chV c) r) (hp g (Sq σ s0 (t++kept (σ.qs.contains b) s0 b c)))=_
  rw [seq_next (augTok (σ:=Sq σ s0 (t++kept (σ.qs.contains b) s0 b c)) (w:=[c]) rfl hk)]
  rfl
theorem wayEe (h0:s0 ≠ 32) (hq:σ.qs.contains s0=false) (he:σ.es.contains s0=true):execs tab (callF tab K (d+1)) K b18_73 (rl q esc (.val (.str [])) r) (hp g (Sq σ s0 t))=.exc 0 noEsc (rl q esc (.val (.str [])) r) (hp g (Sq σ s0 t)):=by
  rw [st_e h0 hq,if_pos he]
  rfl
theorem wayA {n:LV} (h1:σ.qs.contains 97=false) (h2:σ.es.contains 97=false):execs tab (callF tab K (d+1)) K b18_73 (rl q esc n r) (hp g (Sa σ t))=execs tab (callF tab K (d+1)) K b18_69 (rl q esc n r) (hp g (Sa σ t)):=by
  rw [st_e (s0:=97) (by decide) h1,if_neg (by rw [h2]; exact Bool.false_ne_true),blkT (B:=b18_70) (s':=hp g (Sa σ t)) rfl rfl]
theorem wayC {n:LV} (h1:σ.qs.contains 99=false) (h2:σ.es.contains 99=false):execs tab (callF tab K (d+1)) K b18_73 (rl q esc n r) (hp g (Sc σ t))=execs tab (callF tab K (d+1)) K b18_69 (rl q esc n r) (hp g (Sc σ t)):=by
  rw [st_e (s0:=99) (by decide) h1,if_neg (by rw [h2]; exact Bool.false_ne_true),blkT (B:=b18_70) (s':=hp g (Sc σ t)) rfl rfl]
theorem eA:execs tab (callF tab K (d+1)) K b18_69 (rl q esc (.val (.str [])) r) (hp g (Sa σ t))=.brk (rl q esc (.val (.str [])) r) (hp g { Sa σ t with st:=.none }):=by rfl
theorem eC:execs tab (callF tab K (d+1)) K b18_69 (rl q esc (.val (.str [])) r) (hp g (Sc σ t))=.brk (rl q esc (.val (.str [])) r) (hp g { Sc σ t with st:=.none }):=by rfl
theorem t67 (h:σ.cm.contains c=true→RdL g K d { σ with tok:=t,st:=st } pos') (hi:t ≠ [] ∨ q=true):execs tab (callF tab K (d+1)) K b18_69 (rl q esc (chV c) r) (hp g { σ with tok:=t,st:=st }) =
    if σ.ws.contains c=true then .brk (rl q esc (chV c) r) (hp g { σ with tok:=t,st:=.str [32] })
    else if σ.cm.contains c=true then .brk (rl q esc (chV c) r) (hp g { σ with tok:=t,st:=.str [32],pos:=pos',ln:=σ.ln+1 })
    else execs tab (callF tab K (d+1)) K b18_66 (rl q esc (chV c) r) (hp g { σ with tok:=t,st:=st }):=by
  rw [blkF (B:=b18_69) (s':=hp g { σ with tok:=t,st:=st }) rfl rfl,blk (B:=b18_68) (b:=σ.ws.contains c) (s':=hp g { σ with tok:=t,st:=st }) rfl rfl]
  split
  · have e:execs tab (callF tab K (d+1)) K b18_45 (rl q esc (chV c) r) (hp g { σ with tok:=t,st:=st })=execs tab (callF tab K (d+1)) K (.cons (.if_ brkX b18_43 b18_44) .nil) (rl q esc (chV c) r) (hp g { σ with tok:=t,st:=.str [32] }):=by rfl
    rw [e]
    exact brk_yes (σ:={ σ with tok:=t,st:=.str [32] }) hi
  rw [blk (B:=b18_67) (b:=σ.cm.contains c) (s':=hp g { σ with tok:=t,st:=st }) rfl rfl]
  split
  · rename_i hc
    have e:execs tab (callF tab K (d+1)) K b18_49 (rl q esc (chV c) r) (hp g { σ with tok:=t,st:=st })=execs tab (callF tab K (d+1)) K (.cons (.if_ (.attr (.loc 0) 2) b18_48 .nil) .nil) (rl q esc (chV c) r) (hp g { σ with tok:=t,st:=st,pos:=pos',ln:=σ.ln+1 }):=rdlC (h hc)
    have e2:execs tab (callF tab K (d+1)) K b18_48 (rl q esc (chV c) r) (hp g { σ with tok:=t,st:=st,pos:=pos',ln:=σ.ln+1 })=execs tab (callF tab K (d+1)) K (.cons (.if_ brkX b18_46 b18_47) .nil) (rl q esc (chV c) r) (hp g { σ with tok:=t,st:=.str [32],pos:=pos',ln:=σ.ln+1 }):=by rfl
    rw [e,blkT rfl (s':=hp g { σ with tok:=t,st:=st,pos:=pos',ln:=σ.ln+1 }) rfl,e2]
    exact brk_yes (σ:={ σ with tok:=t,st:=.str [32],pos:=pos',ln:=σ.ln+1 }) hi
  · rfl
theorem tA (hp0:σ.pu=p0 :: ps) (hb:σ.pb=[]) (hi:t ≠ [] ∨ q=true) (hl:t.length+1 ≤ lim):execs tab (callF tab K (d+1)) K b18_66 (rl q esc (chV c) r) (hp g (Sa σ t)) =
    if σ.qs.contains c=true then .next (rl q esc (chV c) r) (hp g (Sq σ c t))
    else if σ.es.contains c=true then .next (rl q [97] (chV c) r) (hp g (Sq σ c t))
    else if (σ.wc.contains c || (σ.qs.contains c || (σ.sp&&!σ.pu.contains c)))=true then .next (rl q esc (chV c) r) (hp g (Sa σ (t++[c])))
    else .brk (rl q esc (chV c) r) (hp g { Sa σ t with pb:=[.str [c]],st:=.str [32] }):=by
  rw [blkF (B:=b18_66) (s':=hp g (Sa σ t)) rfl rfl]
  have e65:evalE tab (callF tab K (d+1)) K (rl q esc (chV c) r) true (.boolop true (.cons (.attr (.loc 0) 2) (.cons (.cmp .in_ (.loc 3) (.attr (.loc 0) 8)) .nil))) (hp g (Sa σ t))=.ok (.bool (σ.qs.contains c)) (hp g (Sa σ t)):=and_t rfl rfl
  rw [blk (B:=b18_65) rfl e65]
  split
  · rfl
  have e64:evalE tab (callF tab K (d+1)) K (rl q esc (chV c) r) true (.boolop true (.cons (.attr (.loc 0) 2) (.cons (.cmp .in_ (.loc 3) (.attr (.loc 0) 9)) .nil))) (hp g (Sa σ t))=.ok (.bool (σ.es.contains c)) (hp g (Sa σ t)):=and_t rfl rfl
  rw [blk (B:=b18_64) rfl e64]
  split
  · rfl
  have e63:evalE tab (callF tab K (d+1)) K (rl q esc (chV c) r) true (.boolop false (.cons (.cmp .in_ (.loc 3) (.attr (.loc 0) 5)) (.cons (.cmp .in_ (.loc 3) (.attr (.loc 0) 8)) (.cons (.boolop true (.cons (.attr (.loc 0) 7) (.cons (.cmp .notIn (.loc 3) (.attr (.loc 0) 20)) .nil))) .nil)))) (hp g (Sa σ t)) =
      .ok (.bool (σ.wc.contains c || (σ.qs.contains c || (σ.sp&&!σ.pu.contains c)))) (hp g (Sa σ t)):=by
    show (R.bool (.ok (.bool (σ.wc.contains c)) (hp g (Sa σ t))) fun b s=>if b == false then R.bool (.ok (.bool (σ.qs.contains c)) s) (fun b s=>if b == false then (R.bool (R.bool (.ok (.bool σ.sp) s) fun b s=>if b == true then R.bool (.ok (.bool (!σ.pu.contains c)) s) (fun b s=>if b == true then .ok (.bool true) s else .ok (.bool b) s) else .ok (.bool b) s) fun b s=>if b == false then .ok (.bool false) s else .ok (.bool b) s) else .ok (.bool b) s) else .ok (.bool b) s)=_
    cases σ.wc.contains c<;>cases σ.qs.contains c<;>cases σ.sp<;>cases σ.pu.contains c<;>rfl
  rw [blk (B:=b18_63) rfl e63]
  split
  · exact xone.trans (augTok (σ:=Sa σ t) (w:=[c]) rfl hl)
  · have e:execs tab (callF tab K (d+1)) K b18_62 (rl q esc (chV c) r) (hp g (Sa σ t))=execs tab (callF tab K (d+1)) K (.cons (.if_ brkX b18_60 b18_61) .nil) (rl q esc (chV c) r) (hp g { Sa σ t with pb:=[.str [c]],st:=.str [32] }):=by
      obtain ⟨cm,wc,ws,sp,qs,es,eq,st,ln,tok,pu,buf,pos,pb⟩:=σ
      dsimp only at hp0 hb
      subst hp0 hb
      rfl
    rw [e]
    exact brk_yes (σ:={ Sa σ t with pb:=[.str [c]],st:=.str [32] }) hi
theorem tC (hb:σ.pb=[]) (hws:σ.ws.contains c=false) (hl:t.length+1 ≤ lim):execs tab (callF tab K (d+1)) K b18_66 (rl q esc (chV c) r) (hp g (Sc σ t)) =
    if σ.pu.contains c=true then .next (rl q esc (chV c) r) (hp g (Sc σ (t++[c])))
    else .brk (rl q esc (chV c) r) (hp g { Sc σ t with pb:=[.str [c]],st:=.str [32] }):=by
  rw [blkT (B:=b18_66) (s':=hp g (Sc σ t)) rfl rfl,blk (B:=b18_53) (b:=σ.pu.contains c) (s':=hp g (Sc σ t)) rfl rfl]
  split
  · exact xone.trans (augTok (σ:=Sc σ t) (w:=[c]) rfl hl)
  · have ew:execS tab (callF tab K (d+1)) K (.if_ (.cmp .notIn (.loc 3) (.attr (.loc 0) 6)) b18_51 .nil) (rl q esc (chV c) r) (hp g (Sc σ t))=.next (rl q esc (chV c) r) (hp g { Sc σ t with pb:=[.str [c]] }):=by
      rw [xif (b:=!σ.ws.contains c) (s':=hp g (Sc σ t)) rfl,hws,if_pos (show (!false)=true from rfl)]
      obtain ⟨cm,wc,ws,sp,qs,es,eq,st,ln,tok,pu,buf,pos,pb⟩:=σ
      dsimp only at hb
      subst hb
      rfl
    unfold b18_52
    rw [seq_next ew]
    rfl
end
theorem clipN {n k:Nat} (h:k ≤ n):clip n (k:Int)=k:=by
  unfold clip
  rw [if_neg (by omega)]
  simp; omega
theorem boundN {n d k:Nat} (h:k ≤ n) (hs:n < 2 ^ 59):bound n d (.int (k:Int))=some k:=by
  unfold bound
  dsimp only
  rw [if_pos (by omega),clipN h]
theorem slice2 {s:List AO} {x:List Nat} {lo hi:V} {p q:Nat} (e1:bound x.length 0 lo=some p) (e2:bound x.length x.length hi=some q):sliceOp s (.str x) lo hi=.ok (.str ((x.take q).drop p)) s:=by
  show R.opt (bound x.length 0 lo) (fun p=>R.opt (bound x.length x.length hi) fun q=>R.ok (V.str ((x.take q).drop p)) s)=_
  rw [e1,e2]; rfl
theorem sliceN {s:List AO} {x:List Nat} {a b:Nat} (ha:a ≤ b) (hb:b ≤ x.length) (hs:x.length < 2 ^ 59):sliceOp s (.str x) (.int (a:Int)) (.int (b:Int))=.ok (.str ((x.take b).drop a)) s :=
  slice2 (boundN (Nat.le_trans ha hb) hs) (boundN hb hs)
theorem sliceLast {s:List AO} {x:List Nat} {y:Nat} (hs:x.length < 2 ^ 59):sliceOp s (.str (x++[y])) .none (.int (-1))=.ok (.str x) s:=by
  have:bound (x++[y]).length (x++[y]).length (.int (-1))=some x.length:=by
    unfold bound clip
    dsimp only
    rw [if_pos (by decide),if_pos (by decide)]
    congr 1
    simp
    omega
  rw [slice2 rfl this]
  simp
theorem addStr {s:List AO} {x y:List Nat} (h:x.length+y.length ≤ lim):binOp s .add (.str x) (.str y)=.ok (.str (x++y)) s:=if_pos h
theorem locV {l:List LV} {s:List AO} {i:Nat} {v:V} (h:l[i]?=some (.val v)):getLoc l s i=.ok v s:=by
  show R.opt l[i]? _=_
  rw [h]; rfl
section
variable {g:G} {σ:Lx} {K d:Nat} {n:Nat}
theorem readRet {cf:Nat→List V→List AO→R V} {l:List LV} {a b:Nat} (h0:l[0]?=some (.val (.obj 14))) (h2:l[2]?=some (.val (.int (a:Int)))) (h3:l[3]?=some (.val (.int (b:Int)))) (ha:a ≤ b) (hb:b ≤ σ.buf.length) (hs:σ.buf.length < 2 ^ 20) :
    evalE tab cf K l false (.slice (.bin .add (.slice (.attr (.loc 0) 22) (.loc 2) (.loc 3)) (.lit (.str [32]))) (.lit (.none)) (.neg (.lit (.int 1)))) (hp g σ)=.ok (.str ((σ.buf.take b).drop a)) (hp g σ):=by
  have e0:evalE tab cf K l false (.attr (.loc 0) 22) (hp g σ)=.ok (.str σ.buf) (hp g σ):=by
    show (R.bind (getLoc l (hp g σ) 0) _)=_
    rw [locV h0]
    rfl
  have e2:evalE tab cf K l false (.loc 2) (hp g σ)=.ok (.int (a:Int)) (hp g σ):=by
    show getLoc l _ 2=_
    exact locV h2
  have e3:evalE tab cf K l false (.loc 3) (hp g σ)=.ok (.int (b:Int)) (hp g σ):=by
    show getLoc l _ 3=_
    exact locV h3
  have es:evalE tab cf K l false (.slice (.attr (.loc 0) 22) (.loc 2) (.loc 3)) (hp g σ)=.ok (.str ((σ.buf.take b).drop a)) (hp g σ):=by
    show ((evalE tab cf K l false (.attr (.loc 0) 22) (hp g σ)).bind fun x s=>(evalE tab cf K l false (.loc 2) s).bind fun p s=>(evalE tab cf K l false (.loc 3) s).bind fun q s=>sliceOp s x p q)=_
    rw [e0]
    dsimp only [R.bind]
    rw [e2]
    dsimp only [R.bind]
    rw [e3]
    dsimp only [R.bind]
    exact sliceN ha hb (by omega)
  have hl:((σ.buf.take b).drop a).length+[32].length ≤ lim:=by
    simp [lim]; omega
  show ((R.bind (evalE tab cf K l false (.slice (.attr (.loc 0) 22) (.loc 2) (.loc 3)) (hp g σ)) fun x s=>binOp s .add x (.str [32])).bind fun x s=>sliceOp s x .none (.int (-1)))=_
  rw [es]
  dsimp only [R.bind]
  rw [addStr hl]
  dsimp only [R.bind]
  exact sliceLast (by simp; omega)
set_option tactic.hygienic true in
theorem read_some (hn:σ.pos=(n:Int)) (h:n < σ.buf.length) (hs:σ.buf.length < 2 ^ 20):callF tab K (d+2) 23 [.obj 14,.int 1] (hp g σ)=.ok (.str [σ.buf[n]]) (hp g { σ with pos:=((n+1:Nat):Int) }):=by
  have key:execs tab (callF tab K (d+1)) K b23_3 [.val (.obj 14),.val (.int 1),.un,.un,.un,.un] (hp g σ)=.ret (.str [σ.buf[n]]) (hp g { σ with pos:=((n+1:Nat):Int) }):=by
    show execs tab (callF tab K (d+1)) K (.cons (.if_ (.cmp .ge (.loc 2) (.loc 3)) b23_1 .nil) (.cons (.if_ (.boolop true (.cons (.cmp .ge (.loc 1) (.lit (.int 0))) (.cons (.cmp .lt (.bin .add (.loc 2) (.loc 1)) (.loc 3)) .nil))) b23_2 .nil) (.cons (.asgA (.loc 0) 23 (.loc 3)) (.cons (.ret (.slice (.bin .add (.slice (.attr (.loc 0) 22) (.loc 2) (.loc 3)) (.lit (.str [32]))) (.lit (.none)) (.neg (.lit (.int 1))))) (.nil)))))
      [.val (.obj 14),.val (.int 1),.val (.int σ.pos),.val (.int (σ.buf.length:Int)),.un,.un] (hp g σ)=_
    rw [hn,xcons,xif (b:=decide ((n:Int) ≥ (σ.buf.length:Int))) (s':=hp g σ) rfl,if_neg (by simp; omega),xnil]
    dsimp only [RS.seq]
    rw [xcons]
    have e7:execS tab (callF tab K (d+1)) K (.if_ (.boolop true (.cons (.cmp .ge (.loc 1) (.lit (.int 0))) (.cons (.cmp .lt (.bin .add (.loc 2) (.loc 1)) (.loc 3)) .nil))) b23_2 .nil) [.val (.obj 14),.val (.int 1),.val (.int (n:Int)),.val (.int (σ.buf.length:Int)),.un,.un] (hp g σ) =
        .next [.val (.obj 14),.val (.int 1),.val (.int (n:Int)),.val (.int ((n+1:Nat):Int)),.un,.un] (hp g σ):=by
      have ec:evalE tab (callF tab K (d+1)) K [.val (.obj 14),.val (.int 1),.val (.int (n:Int)),.val (.int (σ.buf.length:Int)),.un,.un] true (.boolop true (.cons (.cmp .ge (.loc 1) (.lit (.int 0))) (.cons (.cmp .lt (.bin .add (.loc 2) (.loc 1)) (.loc 3)) .nil))) (hp g σ)=.ok (.bool (decide ((n:Int)+1 < (σ.buf.length:Int)))) (hp g σ):=by
        show (if decide ((n:Int)+1 < (σ.buf.length:Int)) == true then (R.ok (V.bool true) (hp g σ):R V) else R.ok (V.bool (decide ((n:Int)+1 < (σ.buf.length:Int)))) (hp g σ))=_
        cases decide ((n:Int)+1 < (σ.buf.length:Int))<;>rfl
      rw [xif ec]
      by_cases hc:(n:Int)+1 < (σ.buf.length:Int)
      · rw [if_pos (by simpa using hc)]
        rfl
      · rw [if_neg (by simpa using hc),xnil]
        have:σ.buf.length=n+1:=by omega
        rw [this]
    rw [e7]
    show ((evalE tab (callF tab K (d+1)) K [.val (.obj 14),.val (.int 1),.val (.int (n:Int)),.val (.int ((n+1:Nat):Int)),.un,.un] false (.slice (.bin .add (.slice (.attr (.loc 0) 22) (.loc 2) (.loc 3)) (.lit (.str [32]))) (.lit (.none)) (.neg (.lit (.int 1)))) (hp g { σ with pos:=((n+1:Nat):Int) })).st _ fun v s=>.ret v s).seq _=_
    rw [readRet (σ:={ σ with pos:=((n+1:Nat):Int) }) (a:=n) (b:=n+1) rfl rfl rfl (by omega) h hs]
    have:(σ.buf.take (n+1)).drop n=[σ.buf[n]]:=by
      rw [List.take_succ_eq_append_getElem h,List.drop_append]
      have e1:(σ.buf.take n).length=n:=by simp; omega
      rw [e1,Nat.sub_self,List.drop_eq_nil_of_le (by rw [e1]; exact Nat.le_refl _)]
      rfl
    show RS.ret (.str ((σ.buf.take (n+1)).drop n)) _=_
    rw [this]
  show endCall (hp g σ).length (execs tab (callF tab K (d+1)) K b23_3 [.val (.obj 14),.val (.int 1),.un,.un,.un,.un] (hp g σ))=_
  rw [key]
  rfl
theorem read_none (h:σ.pos ≥ (σ.buf.length:Int)):callF tab K (d+2) 23 [.obj 14,.int 1] (hp g σ)=.ok (.str []) (hp g σ):=by
  have key:execs tab (callF tab K (d+1)) K b23_3 [.val (.obj 14),.val (.int 1),.un,.un,.un,.un] (hp g σ)=.ret (.str []) (hp g σ):=by
    show execs tab (callF tab K (d+1)) K (.cons (.if_ (.cmp .ge (.loc 2) (.loc 3)) b23_1 .nil) (.cons (.if_ (.boolop true (.cons (.cmp .ge (.loc 1) (.lit (.int 0))) (.cons (.cmp .lt (.bin .add (.loc 2) (.loc 1)) (.loc 3)) .nil))) b23_2 .nil) (.cons (.asgA (.loc 0) 23 (.loc 3)) (.cons (.ret (.slice (.bin .add (.slice (.attr (.loc 0) 22) (.loc 2) (.loc 3)) (.lit (.str [32]))) (.lit (.none)) (.neg (.lit (.int 1))))) (.nil)))))
      [.val (.obj 14),.val (.int 1),.val (.int σ.pos),.val (.int (σ.buf.length:Int)),.un,.un] (hp g σ)=_
    rw [xcons,xif (b:=decide (σ.pos ≥ (σ.buf.length:Int))) (s':=hp g σ) rfl,if_pos (by simpa using h)]
    rfl
  show endCall (hp g σ).length (execs tab (callF tab K (d+1)) K b23_3 [.val (.obj 14),.val (.int 1),.un,.un,.un,.un] (hp g σ))=_
  rw [key]
  rfl
noncomputable def lineEnd (buf:List Nat) (n:Nat):Nat:=if n ≥ buf.length then n else if findC 10 buf n buf.length ≥ 0 then (findC 10 buf n buf.length).toNat+1 else buf.length
theorem idxC_ge (c:Nat):∀ (l:List Nat) (k:Nat),idxC c l k=-1 ∨ ((k:Int) ≤ idxC c l k∧idxC c l k < k+l.length)
  | [],k=>.inl rfl
  | y :: ys,k=>by
    unfold idxC
    split
    · right; simp; omega
    · rcases idxC_ge c ys (k+1) with h | ⟨h1,h2⟩
      · exact .inl h
      · right; simp at h2 ⊢; omega
set_option tactic.hygienic true in
theorem line_end (hn:σ.pos=(n:Int)) (hs:σ.buf.length < 2 ^ 20):∃ w,callF tab K (d+1) 22 [.obj 14,.int (-1)] (hp g σ)=.ok (.str w) (hp g { σ with pos:=(lineEnd σ.buf n:Int) }):=by
  have start:execs tab (callF tab K d) K b22_12 [.val (.obj 14),.val (.int (-1)),.un,.un,.un,.un,.un,.un,.un,.un,.un] (hp g σ) =
      execs tab (callF tab K d) K (.cons (.if_ (.cmp .ge (.loc 2) (.loc 3)) b22_0 .nil) (.cons (.asg 4 (.lit (.bool false))) (.cons (.if_ (.boolop true (.cons (.cmp .ge (.loc 1) (.lit (.int 0))) (.cons (.cmp .lt (.bin .add (.loc 2) (.loc 1)) (.loc 3)) .nil))) b22_1 .nil) (.cons (.asg 5 (.attr (.loc 0) 21)) (.cons (.if_ (.cmp .eq (.loc 5) (.lit (.str []))) b22_8 b22_11) (.cons (.asgA (.loc 0) 23 (.loc 3)) (.cons (.ret (.slice (.bin .add (.slice (.attr (.loc 0) 22) (.loc 2) (.loc 3)) (.lit (.str [32]))) (.lit (.none)) (.neg (.lit (.int 1))))) (.nil))))))))
      [.val (.obj 14),.val (.int (-1)),.val (.int σ.pos),.val (.int (σ.buf.length:Int)),.un,.un,.un,.un,.un,.un,.un] (hp g σ):=by rfl
  have fin:∀ {w:V} {σ':Lx},execs tab (callF tab K d) K b22_12 [.val (.obj 14),.val (.int (-1)),.un,.un,.un,.un,.un,.un,.un,.un,.un] (hp g σ)=.ret (.str [1]) (hp g σ')→True:=fun _=>trivial
  have out:∀ (w:List Nat) (σ':Lx),execs tab (callF tab K d) K b22_12 [.val (.obj 14),.val (.int (-1)),.un,.un,.un,.un,.un,.un,.un,.un,.un] (hp g σ)=.ret (.str w) (hp g σ')→callF tab K (d+1) 22 [.obj 14,.int (-1)] (hp g σ)=.ok (.str w) (hp g σ'):=by
    intro w σ' key
    show endCall (hp g σ).length (execs tab (callF tab K d) K b22_12 [.val (.obj 14),.val (.int (-1)),.un,.un,.un,.un,.un,.un,.un,.un,.un] (hp g σ))=_
    rw [key]
    rfl
  unfold lineEnd
  by_cases hge:n ≥ σ.buf.length
  · rw [if_pos hge]
    refine ⟨[],out [] _ ?_⟩
    rw [start,xcons,xif (b:=decide (σ.pos ≥ (σ.buf.length:Int))) (s':=hp g σ) rfl,if_pos (by rw [hn]; simpa using hge),← hn]
    rfl
  · rw [if_neg hge]
    have mid:execs tab (callF tab K d) K b22_12 [.val (.obj 14),.val (.int (-1)),.un,.un,.un,.un,.un,.un,.un,.un,.un] (hp g σ) =
        (execS tab (callF tab K d) K (.if_ (.cmp .eq (.loc 5) (.lit (.str []))) b22_8 b22_11) [.val (.obj 14),.val (.int (-1)),.val (.int (n:Int)),.val (.int (σ.buf.length:Int)),.val (.bool false),.val (.str [10]),.un,.un,.un,.un,.un] (hp g σ)).seq
          (execs tab (callF tab K d) K (.cons (.asgA (.loc 0) 23 (.loc 3)) (.cons (.ret (.slice (.bin .add (.slice (.attr (.loc 0) 22) (.loc 2) (.loc 3)) (.lit (.str [32]))) (.lit (.none)) (.neg (.lit (.int 1))))) (.nil)))):=by
      rw [start,hn,xcons,xif (b:=decide ((n:Int) ≥ (σ.buf.length:Int))) (s':=hp g σ) rfl,if_neg (by simp; omega),xnil]
      rfl
    have fnd:bmOp (hp g σ) .find (.str σ.buf) [.str [10],.int (n:Int),.int (σ.buf.length:Int)]=.ok (.int (findC 10 σ.buf n σ.buf.length)) (hp g σ):=by
      show (if (decide ((0:Int) ≤ n)&&decide ((n:Int) ≤ σ.buf.length)&&decide ((σ.buf.length:Int) ≤ σ.buf.length)&&decide (σ.buf.length ≤ lim))=true then (R.ok (V.int (findC 10 σ.buf (n:Int).toNat (σ.buf.length:Int).toNat)) (hp g σ):R V) else R.fail)=_
      rw [if_pos (by
        simp only [Bool.and_eq_true,decide_eq_true_eq]
        refine ⟨⟨⟨by omega,by omega⟩,by omega⟩,?_⟩
        unfold lim; omega)]
      rfl
    have fb:=idxC_ge 10 ((σ.buf.take σ.buf.length).drop n) n
    have hlen:((σ.buf.take σ.buf.length).drop n).length=σ.buf.length - n:=by simp
    rw [hlen] at fb
    have ef:findC 10 σ.buf n σ.buf.length=idxC 10 ((σ.buf.take σ.buf.length).drop n) n:=rfl
    generalize hi:findC 10 σ.buf n σ.buf.length=i at *
    have e6:execS tab (callF tab K d) K (.if_ (.cmp .eq (.loc 5) (.lit (.str []))) b22_8 b22_11) [.val (.obj 14),.val (.int (-1)),.val (.int (n:Int)),.val (.int (σ.buf.length:Int)),.val (.bool false),.val (.str [10]),.un,.un,.un,.un,.un] (hp g σ) =
        .next [.val (.obj 14),.val (.int (-1)),.val (.int (n:Int)),.val (.int ((if i ≥ 0 then i.toNat+1 else σ.buf.length:Nat):Int)),.val (.bool false),.val (.str [10]),.val (.int i),.un,.val (.str [10]),.un,.un] (hp g σ):=by
      rw [xif (b:=false) (s':=hp g σ) rfl,if_neg (by decide)]
      have e1:execs tab (callF tab K d) K b22_11 [.val (.obj 14),.val (.int (-1)),.val (.int (n:Int)),.val (.int (σ.buf.length:Int)),.val (.bool false),.val (.str [10]),.un,.un,.un,.un,.un] (hp g σ) =
          ((bmOp (hp g σ) .find (.str σ.buf) [.str [10],.int (n:Int),.int (σ.buf.length:Int)]).st [.val (.obj 14),.val (.int (-1)),.val (.int (n:Int)),.val (.int (σ.buf.length:Int)),.val (.bool false),.val (.str [10]),.un,.un,.val (.str [10]),.un,.un]
            fun v s=>setLoc [.val (.obj 14),.val (.int (-1)),.val (.int (n:Int)),.val (.int (σ.buf.length:Int)),.val (.bool false),.val (.str [10]),.un,.un,.val (.str [10]),.un,.un] s 6 v).seq (execs tab (callF tab K d) K (.cons (.if_ (.cmp .ge (.loc 6) (.lit (.int 0))) b22_10 .nil) .nil)):=by rfl
      rw [e1,fnd]
      show execs tab (callF tab K d) K (.cons (.if_ (.cmp .ge (.loc 6) (.lit (.int 0))) b22_10 .nil) .nil) [.val (.obj 14),.val (.int (-1)),.val (.int (n:Int)),.val (.int (σ.buf.length:Int)),.val (.bool false),.val (.str [10]),.val (.int i),.un,.val (.str [10]),.un,.un] (hp g σ)=_
      rw [xone,xif (b:=decide (i ≥ 0)) (s':=hp g σ) rfl]
      by_cases h0:i ≥ 0
      · rw [if_pos (by simpa using h0),if_pos h0]
        have:((i.toNat+1:Nat):Int)=i+1:=by omega
        rw [this]
        rfl
      · rw [if_neg (by simpa using h0),if_neg h0]
        rfl
    generalize hq:(if i ≥ 0 then i.toNat+1 else σ.buf.length)=q at e6 ⊢
    have hq1:n ≤ q:=by
      rw [← hq]
      split
      · rcases fb with fb | fb<;>omega
      · omega
    have hq2:q ≤ σ.buf.length:=by
      rw [← hq]
      split
      · rcases fb with fb | fb<;>omega
      · omega
    refine ⟨_,out ((σ.buf.take q).drop n) _ ?_⟩
    rw [mid,e6]
    show ((evalE tab (callF tab K d) K [.val (.obj 14),.val (.int (-1)),.val (.int (n:Int)),.val (.int (q:Int)),.val (.bool false),.val (.str [10]),.val (.int i),.un,.val (.str [10]),.un,.un] false (.slice (.bin .add (.slice (.attr (.loc 0) 22) (.loc 2) (.loc 3)) (.lit (.str [32]))) (.lit (.none)) (.neg (.lit (.int 1)))) (hp g { σ with pos:=(q:Int) })).st _ fun v s=>.ret v s).seq _=_
    rw [readRet (σ:={ σ with pos:=(q:Int) }) (a:=n) (b:=q) rfl rfl rfl hq1 hq2 hs]
theorem rdL (hn:σ.pos=(n:Int)) (hs:σ.buf.length < 2 ^ 20):RdL g K (d+2) σ (lineEnd σ.buf n:Int):=by
  obtain ⟨w,h⟩:=line_end (g:=g) (K:=K) (d:=d+1) hn hs
  refine ⟨w,?_⟩
  have e:callF tab K (d+2+1) 24 [.obj 14] (hp g σ)=endCall (hp g σ).length ((R.st (callF tab K (d+2) 22 [.obj 14,.int (-1)] (hp g σ)) [.val (.obj 14),.val (.int (-1)),.un] fun v s=>RS.ret v s).seq (execs tab (callF tab K (d+2)) K .nil)):=by rfl
  rw [e,h]
  rfl
end
inductive Tk where
  | ok (t rest:List Nat) (ln:Int) (st:V)
  | eof (ln:Int)
  | bad (m t:List Nat) (ln:Int) (s:Nat)
structure Par where
  cm:List Nat
  wc:List Nat
  ws:List Nat
  sp:Bool
  qs:List Nat
  es:List Nat
  eq:List Nat
  pu:List Nat
@[reducible] noncomputable def Lx.par (σ:Lx):Par:=⟨σ.cm,σ.wc,σ.ws,σ.sp,σ.qs,σ.es,σ.eq,σ.pu⟩
noncomputable def inW (P:Par) (c:Nat):Bool:=P.wc.contains c || (P.qs.contains c || (P.sp&&!P.pu.contains c))
inductive Md where
  | w
  | u
  | k (m:Nat)
  | x (s b:Nat)
noncomputable def Md.st:Md→Nat
  | .w=>97
  | .u=>99
  | .k m=>m
  | .x s _=>s
noncomputable def back (b:Nat):Md:=if b=97 then .w else .k b
noncomputable def afterLine:List Nat→List Nat
  | []=>[]
  | c :: r=>if c=10 then r else afterLine r
theorem afterLine_len:∀ l:List Nat,(afterLine l).length ≤ l.length
  | []=>Nat.le_refl _
  | c :: r=>by
    unfold afterLine
    split
    · simp
    · have:=afterLine_len r
      simp; omega
noncomputable def rd (P:Par):List Nat→Md→List Nat→Int→Tk
  | [],.w,t,ln=>.ok t [] ln .none
  | [],.u,t,ln=>.ok t [] ln .none
  | [],.k m,t,ln=>.bad noClose t ln m
  | [],.x s _,t,ln=>.bad noEsc t ln s
  | c :: r,.w,t,ln=>if P.ws.contains c=true then .ok t r (lnA c ln) (.str [32])
    else if P.cm.contains c=true then .ok t (afterLine r) (lnA c ln+1) (.str [32])
    else if P.qs.contains c=true then rd P r (.k c) t (lnA c ln)
    else if P.es.contains c=true then rd P r (.x c 97) t (lnA c ln)
    else if inW P c=true then rd P r .w (t++[c]) (lnA c ln)
    else .ok t (c :: r) (lnA c ln) (.str [32])
  | c :: r,.u,t,ln=>if P.ws.contains c=true then .ok t r (lnA c ln) (.str [32])
    else if P.cm.contains c=true then .ok t (afterLine r) (lnA c ln+1) (.str [32])
    else if P.pu.contains c=true then rd P r .u (t++[c]) (lnA c ln)
    else .ok t (c :: r) (lnA c ln) (.str [32])
  | c :: r,.k m,t,ln=>if (c == m)=true then rd P r .w t (lnA c ln)
    else if (P.es.contains c&&P.eq.contains m)=true then rd P r (.x c m) t (lnA c ln)
    else rd P r (.k m) (t++[c]) (lnA c ln)
  | c :: r,.x s b,t,ln=>rd P r (back b) (t++kept (P.qs.contains b) s b c++[c]) (lnA c ln)
noncomputable def r0 (P:Par):Int→Bool→List Nat→Tk
  | ln,_,[]=>.eof ln
  | ln,true,c :: r=>if c=10 then r0 P ln false r else r0 P ln true r
  | ln,false,c :: r=>if P.ws.contains c=true then r0 P (lnA c ln) false r
    else if P.cm.contains c=true then r0 P (lnA c ln+1) true r
    else if P.es.contains c=true then rd P r (.x c 97) [] (lnA c ln)
    else if P.wc.contains c=true then rd P r .w [c] (lnA c ln)
    else if P.pu.contains c=true then rd P r .u [c] (lnA c ln)
    else if P.qs.contains c=true then rd P r (.k c) [] (lnA c ln)
    else if P.sp=true then rd P r .w [c] (lnA c ln)
    else .ok [c] r (lnA c ln) (.str [32])
theorem r0_line (P:Par) (ln:Int) (r:List Nat):r0 P ln true r=r0 P ln false (afterLine r):=by
  induction r with
  | nil=>rfl
  | cons c r ih =>
    show (if c=10 then r0 P ln false r else r0 P ln true r)=r0 P ln false (if c=10 then r else afterLine r)
    by_cases q:c=10
    · rw [if_pos q,if_pos q]
    · rw [if_neg q,if_neg q,ih]
theorem idx_after:∀ (l:List Nat) (n:Nat),(idxC 10 l n=-1∧afterLine l=[]) ∨ (∃ j:Nat,j < l.length∧idxC 10 l n=((n+j:Nat):Int)∧afterLine l=l.drop (j+1))
  | [],n=>.inl ⟨rfl,rfl⟩
  | c :: r,n=>by
    unfold idxC afterLine
    by_cases h:c=10
    · subst h
      exact .inr ⟨0,by simp,by simp,by simp⟩
    · have h1:(c == 10)=false:=by simpa using h
      rw [h1,if_neg h]
      rcases idx_after r (n+1) with ⟨e1,e2⟩ | ⟨j,e0,e1,e2⟩
      · exact .inl ⟨by simpa using e1,e2⟩
      · refine .inr ⟨j+1,by simp; omega,?_,by simpa using e2⟩
        simp only [Bool.false_eq_true,if_false]
        rw [e1]; omega
theorem lineEnd_spec {buf:List Nat} {n:Nat} (hn:n ≤ buf.length):lineEnd buf n ≤ buf.length∧buf.drop (lineEnd buf n)=afterLine (buf.drop n):=by
  unfold lineEnd
  have ef:findC 10 buf n buf.length=idxC 10 (buf.drop n) n:=by unfold findC; rw [List.take_length]
  by_cases hge:n ≥ buf.length
  · rw [if_pos hge]
    refine ⟨hn,?_⟩
    rw [List.drop_eq_nil_of_le hge]
    rfl
  · rw [if_neg hge,ef]
    rcases idx_after (buf.drop n) n with ⟨e1,e2⟩ | ⟨j,e0,e1,e2⟩
    · rw [e1,if_neg (by decide),e2]
      exact ⟨Nat.le_refl _,by simp⟩
    · rw [e1,if_pos (by omega),e2]
      have:((n+j:Nat):Int).toNat=n+j:=by omega
      rw [this]
      simp at e0
      refine ⟨by omega,?_⟩
      rw [List.drop_drop]
      congr 1
noncomputable def Rep (buf:List Nat) (p:Int) (pb:List V) (rest:List Nat):Prop:=∃ n:Nat,p=(n:Int)∧n ≤ buf.length∧((pb=[]∧rest=buf.drop n) ∨ ∃ c,pb=[.str [c]]∧rest=c :: buf.drop n)
section
variable {g:G} {σ:Lx} {K d:Nat} {q:Bool} {esc:List Nat} {r nc:LV} {c:Nat} {p0:Nat} {ps:List Nat} {ts:List Nat} {t0:Nat} {n:Nat}
noncomputable abbrev cfD (K d:Nat):=callF tab K (d+3)
noncomputable abbrev body (K d:Nat) (l:List LV) (s:List AO):RS:=execs tab (cfD K d) K b18_74 l s
noncomputable abbrev WT (K d:Nat):Nat→List LV→List AO→RS:=whileTurns (fun l s=>evalE tab (cfD K d) K l true (.lit (.bool true)) s) (fun l s=>execs tab (cfD K d) K b18_74 l s)
set_option tactic.hygienic true in
theorem rd0 (hcc:nc=.un ∨ ∃ v,nc=.val v) (h0:σ.pu=p0 :: ps) (hb:σ.pb=[.str [c]]):execS tab (cfD K d) K (.if_ (.boolop true (.cons (.attr (.loc 0) 20) (.cons (.attr (.loc 0) 19) .nil))) b18_0 b18_1) (rl q esc nc r) (hp g σ)=.next (rl q esc (chV c) r) (hp g { σ with pb:=[] }):=by
  obtain ⟨cm,wc,ws,sp,qs,es,eq,st,ln,tok,pu,buf,pos,pb⟩:=σ
  dsimp only at h0 hb
  subst h0 hb
  rw [xif (b:=true) (s':=hp g ⟨cm,wc,ws,sp,qs,es,eq,st,ln,tok,p0 :: ps,buf,pos,[.str [c]]⟩) rfl,if_pos rfl]
  rcases hcc with rfl | ⟨v,rfl⟩<;>rfl
theorem rdCall (h0:σ.pu=p0 :: ps) (hb:σ.pb=[]):execS tab (cfD K d) K (.if_ (.boolop true (.cons (.attr (.loc 0) 20) (.cons (.attr (.loc 0) 19) .nil))) b18_0 b18_1) (rl q esc nc r) (hp g σ) =
    ((callF tab K (d+1+2) 23 [.obj 14,.int 1] (hp g σ)).st (rl q esc nc r) fun v s=>setLoc (rl q esc nc r) s 3 v).seq (execs tab (cfD K d) K .nil):=by
  obtain ⟨cm,wc,ws,sp,qs,es,eq,st,ln,tok,pu,buf,pos,pb⟩:=σ
  dsimp only at h0 hb
  subst h0 hb
  rw [xif (b:=false) (s':=hp g ⟨cm,wc,ws,sp,qs,es,eq,st,ln,tok,p0 :: ps,buf,pos,[]⟩) rfl,if_neg (by decide)]
  rfl
set_option tactic.hygienic true in
theorem rd1 {cc:LV} (hcc:nc=.un ∨ ∃ v,nc=.val v) (h0:σ.pu=p0 :: ps) (hb:σ.pb=[]) (hn:σ.pos=(n:Int)) (h:n < σ.buf.length) (hs:σ.buf.length < 2 ^ 20):execS tab (cfD K d) K (.if_ (.boolop true (.cons (.attr (.loc 0) 20) (.cons (.attr (.loc 0) 19) .nil))) b18_0 b18_1) (rl q esc nc r) (hp g σ) =
    .next (rl q esc (chV σ.buf[n]) r) (hp g { σ with pos:=((n+1:Nat):Int) }):=by
  rw [rdCall h0 hb,read_some hn h hs]
  rcases hcc with rfl | ⟨v,rfl⟩<;>rfl
set_option tactic.hygienic true in
theorem rd2 (hcc:nc=.un ∨ ∃ v,nc=.val v) (h0:σ.pu=p0 :: ps) (hb:σ.pb=[]) (h:σ.pos ≥ (σ.buf.length:Int)):execS tab (cfD K d) K (.if_ (.boolop true (.cons (.attr (.loc 0) 20) (.cons (.attr (.loc 0) 19) .nil))) b18_0 b18_1) (rl q esc nc r) (hp g σ) =
    .next (rl q esc (.val (.str [])) r) (hp g σ):=by
  rw [rdCall h0 hb,read_none h]
  rcases hcc with rfl | ⟨v,rfl⟩<;>rfl
theorem turnC {s0:List Nat} (hcc:nc=.un ∨ ∃ v,nc=.val v) (h0:σ.pu=p0 :: ps) (hst:σ.st=.str s0) {rest:List Nat} (hr:Rep σ.buf σ.pos σ.pb (c :: rest)) (hs:σ.buf.length < 2 ^ 20) :
    ∃ p',Rep σ.buf p' [] rest∧execs tab (cfD K d) K b18_74 (rl q esc nc r) (hp g σ)=execs tab (cfD K d) K b18_73 (rl q esc (chV c) r) (hp g { σ with ln:=lnA c σ.ln,pos:=p',pb:=[] }):=by
  have go:∀ σ':Lx,σ'.st=.str s0→execs tab (cfD K d) K (.cons (.if_ (.cmp .eq (.loc 3) (.lit (.str [10]))) b18_2 .nil) (.cons (.if_ (.cmp .ge (.attr (.loc 0) 14) (.lit (.int 3))) b18_3 .nil) (.cons (.if_ (.cmp .is_ (.attr (.loc 0) 11) (.lit (.none))) b18_4 b18_73) (.nil)))) (rl q esc (chV c) r) (hp g σ') =
      execs tab (cfD K d) K b18_73 (rl q esc (chV c) r) (hp g { σ' with ln:=lnA c σ'.ln }):=by
    intro σ' hst
    rw [xcons,nlS]
    obtain ⟨cm,wc,ws,sp,qs,es,eq,st,ln,tok,pu,buf,pos,pb⟩:=σ'
    dsimp only at hst
    subst hst
    dsimp only [RS.seq]
    rw [xcons,xif (b:=false) rfl,if_neg (by decide),xnil]
    dsimp only [RS.seq]
    rw [xone,xif (b:=false) rfl,if_neg (by decide)]
  obtain ⟨n,e1,e2,h | ⟨c',h1,h2⟩⟩:=hr
  · obtain ⟨h1,h2⟩:=h
    have hlt:n < σ.buf.length:=by
      rcases Nat.lt_or_ge n σ.buf.length with h | h
      · exact h
      · rw [List.drop_eq_nil_of_le h] at h2; cases h2
    rw [List.drop_eq_getElem_cons hlt] at h2
    injection h2 with h3 h4
    refine ⟨((n+1:Nat):Int),⟨n+1,rfl,by omega,.inl ⟨rfl,h4⟩⟩,?_⟩
    show execs tab (cfD K d) K (.cons _ _) _ _=_
    rw [xcons,rd1 (cc:=nc) hcc h0 h1 e1 hlt hs,← h3]
    dsimp only [RS.seq]
    rw [go { σ with pos:=((n+1:Nat):Int) } hst]
    rw [← h1]
  · injection h2 with h3 h4
    subst h3
    refine ⟨σ.pos,⟨n,e1,e2,.inl ⟨rfl,h4⟩⟩,?_⟩
    show execs tab (cfD K d) K (.cons _ _) _ _=_
    rw [xcons,rd0 hcc h0 h1]
    dsimp only [RS.seq]
    rw [go { σ with pb:=[] } hst]
theorem turnE {s0:List Nat} (hcc:nc=.un ∨ ∃ v,nc=.val v) (h0:σ.pu=p0 :: ps) (hst:σ.st=.str s0) (hr:Rep σ.buf σ.pos σ.pb []) :
    execs tab (cfD K d) K b18_74 (rl q esc nc r) (hp g σ)=execs tab (cfD K d) K b18_73 (rl q esc (.val (.str [])) r) (hp g σ):=by
  obtain ⟨n,e1,e2,h | ⟨c',h1,h2⟩⟩:=hr
  · obtain ⟨h1,h2⟩:=h
    have hge:n ≥ σ.buf.length:=by
      rcases Nat.lt_or_ge n σ.buf.length with h | h
      · rw [List.drop_eq_getElem_cons h] at h2; cases h2
      · exact h
    show execs tab (cfD K d) K (.cons _ _) _ _=_
    rw [xcons,rd2 hcc h0 h1 (by omega)]
    obtain ⟨cm,wc,ws,sp,qs,es,eq,st,ln,tok,pu,buf,pos,pb⟩:=σ
    dsimp only at hst
    subst hst
    dsimp only [RS.seq]
    rw [xcons,xif (b:=false) rfl,if_neg (by decide),xnil]
    dsimp only [RS.seq]
    rw [xcons,xif (b:=false) rfl,if_neg (by decide),xnil]
    dsimp only [RS.seq]
    rw [xone,xif (b:=false) rfl,if_neg (by decide)]
  · cases h2
theorem turnN (hcc:nc=.un ∨ ∃ v,nc=.val v) (h0:σ.pu=p0 :: ps) (hst:σ.st=.none) (hr:Rep σ.buf σ.pos σ.pb []) :
    execs tab (cfD K d) K b18_74 (rl q esc nc r) (hp g σ)=.brk (rl q esc (.val (.str [])) r) (hp g { σ with tok:=[] }):=by
  obtain ⟨n,e1,e2,h | ⟨c',h1,h2⟩⟩:=hr
  · obtain ⟨h1,h2⟩:=h
    have hge:n ≥ σ.buf.length:=by
      rcases Nat.lt_or_ge n σ.buf.length with h | h
      · rw [List.drop_eq_getElem_cons h] at h2; cases h2
      · exact h
    show execs tab (cfD K d) K (.cons _ _) _ _=_
    rw [xcons,rd2 hcc h0 h1 (by omega)]
    obtain ⟨cm,wc,ws,sp,qs,es,eq,st,ln,tok,pu,buf,pos,pb⟩:=σ
    dsimp only at hst
    subst hst
    dsimp only [RS.seq]
    rw [xcons,xif (b:=false) rfl,if_neg (by decide),xnil]
    dsimp only [RS.seq]
    rw [xcons,xif (b:=false) rfl,if_neg (by decide),xnil]
    dsimp only [RS.seq]
    rw [xone,xif (b:=true) rfl,if_pos rfl]
    rfl
  · cases h2
variable {f:Nat} {l l':List LV} {σ':Lx} {m:List Nat}
end
section
variable {g:G} {σ:Lx} {K d:Nat} {q:Bool} {esc:List Nat} {r nc:LV} {c:Nat} {p0:Nat} {ps:List Nat} {t:List Nat} {n:Nat} {md:Md}
@[reducible] noncomputable def Lx.put (σ:Lx):List Nat→V→Int→Int→List V→Lx:=fun t st ln p pb=>{ σ with tok:=t,st:=st,ln:=ln,pos:=p,pb:=pb }
inductive Res (g:G) (r:LV) (mk:List Nat→V→Int→Int→List V→Lx) (buf:List Nat) (W:RS):Tk→Prop
  | ok (t rest:List Nat) (ln:Int) (st:V) (q':Bool) (esc':List Nat) (v:V) (p':Int) (pb':List V) (hq:t ≠ [] ∨ q'=true) (h:W=.next (rl q' esc' (.val v) r) (hp g (mk t st ln p' pb'))) (hr:Rep buf p' pb' rest):Res g r mk buf W (.ok t rest ln st)
  | eof (ln:Int) (esc':List Nat) (v:V) (p':Int) (pb':List V) (h:W=.next (rl false esc' (.val v) r) (hp g (mk [] .none ln p' pb'))) (hr:Rep buf p' pb' []):Res g r mk buf W (.eof ln)
  | bad (m t:List Nat) (ln:Int) (s:Nat) (l:List LV) (p':Int) (pb':List V) (h:W=.exc 2 m l (hp g (mk t (.str [s]) ln p' pb'))) (hr:Rep buf p' pb' []):Res g r mk buf W (.bad m t ln s)
structure LxOk (σ:Lx):Prop where
  pu:∃ p0 ps,σ.pu=p0 :: ps
  q32:σ.qs.contains 32=false
  q97:σ.qs.contains 97=false
  q99:σ.qs.contains 99=false
  e32:σ.es.contains 32=false
  e97:σ.es.contains 97=false
  e99:σ.es.contains 99=false
  eq:∀ c,σ.es.contains c=true→σ.qs.contains c=false
  len:σ.buf.length < 2 ^ 20
theorem rep_line {buf:List Nat} {p:Int} {rest:List Nat} (h:Rep buf p [] rest):∃ n:Nat,p=(n:Int)∧Rep buf (lineEnd buf n:Int) [] (afterLine rest):=by
  obtain ⟨n,e1,e2,⟨_,h2⟩ | ⟨c',h1,_⟩⟩:=h
  · obtain ⟨a,b⟩:=lineEnd_spec e2
    exact ⟨n,e1,lineEnd buf n,rfl,a,.inl ⟨rfl,by rw [h2,b]⟩⟩
  · cases h1
theorem rep_back {buf:List Nat} {p:Int} {rest:List Nat} (h:Rep buf p [] rest) (c:Nat):Rep buf p [.str [c]] (c :: rest):=by
  obtain ⟨n,e1,e2,⟨_,h2⟩ | ⟨c',h1,_⟩⟩:=h
  · exact ⟨n,e1,e2,.inr ⟨c,rfl,by rw [h2]⟩⟩
  · cases h1
theorem LxOk.at (ok:LxOk σ) (t:List Nat) (st:V) (ln p:Int) (pb:List V):LxOk (σ.put t st ln p pb):=⟨ok.pu,ok.q32,ok.q97,ok.q99,ok.e32,ok.e97,ok.e99,ok.eq,ok.len⟩
noncomputable abbrev LG (K d f:Nat) (X:RS):RS:=loopRes (WT K d f) 28 true X
theorem wStep {f:Nat} {l:List LV} {R:RS} (h:execs tab (cfD K d) K b18_74 l (hp g σ)=R):WT K d (f+1) l (hp g σ)=LG K d f R:=by
  rw [← h]
  rfl
section
variable {mk:List Nat→V→Int→Int→List V→Lx} {buf:List Nat} {f:Nat} {p:Prop} [Decidable p] {X Y:RS} {u v:Tk}
theorem Res.ite (h1:p→Res g r mk buf (LG K d f X) u) (h2:¬p→Res g r mk buf (LG K d f Y) v):Res g r mk buf (LG K d f (if p then X else Y)) (if p then u else v):=by
  by_cases q:p
  · rw [if_pos q,if_pos q]; exact h1 q
  · rw [if_neg q,if_neg q]; exact h2 q
theorem Res.brk {x:V} {q':Bool} {tk rest:List Nat} {ln p':Int} {st:V} {pb':List V} (hq:tk ≠ [] ∨ q'=true) (h:Rep buf p' pb' rest):Res g r mk buf (LG K d f (.brk (rl q' esc (.val x) r) (hp g (mk tk st ln p' pb')))) (.ok tk rest ln st):=.ok tk rest ln st q' esc x p' pb' hq rfl h
end
noncomputable abbrev at_ (σ:Lx) (ln p:Int):Lx:={ σ with ln:=ln,pos:=p,pb:=[] }
noncomputable def MdOk (σ:Lx) (esc:List Nat) (t:List Nat) (q:Bool):Md→Prop
  | .w=>t ≠ [] ∨ q=true
  | .u=>t ≠ [] ∨ q=true
  | .k m=>σ.qs.contains m=true
  | .x s b=>σ.es.contains s=true∧esc=[b]∧(b=97 ∨ σ.qs.contains b=true)
theorem back_st (b:Nat):(back b).st=b:=by
  unfold back
  by_cases h:b=97
  · rw [if_pos h,h]; rfl
  · rw [if_neg h]; rfl
noncomputable def Loop (g:G) (K d:Nat) (r:LV) (m:Nat):Prop:=∀ (rest:List Nat) (f:Nat) (σ:Lx) (md:Md) (t:List Nat) (nc:LV) (q:Bool) (esc:List Nat),rest.length ≤ m→m < f→LxOk σ→MdOk σ esc t q md→(nc=.un ∨ ∃ v,nc=.val v)→t.length+2 * rest.length < 2 ^ 22→Rep σ.buf σ.pos σ.pb rest →
    Res g r σ.put σ.buf (WT K d f (rl q esc nc r) (hp g (Sq σ md.st t))) (rd σ.par rest md t σ.ln)
theorem ne32 (ok:LxOk σ):∀ md,MdOk σ esc t q md→md.st ≠ 32
  | .w,_=>by decide
  | .u,_=>by decide
  | .k m,h=>fun e=>Bool.false_ne_true (ok.q32.symm.trans ((congrArg σ.qs.contains e.symm).trans h))
  | .x s b,h=>fun e=>Bool.false_ne_true (ok.e32.symm.trans ((congrArg σ.es.contains e.symm).trans h.1))
theorem loop_nil {f:Nat} (ok:LxOk σ) (hm:MdOk σ esc t q md) (hcc:nc=.un ∨ ∃ v,nc=.val v) (hr:Rep σ.buf σ.pos σ.pb []):Res g r σ.put σ.buf (WT K d (f+1) (rl q esc nc r) (hp g (Sq σ md.st t))) (rd σ.par [] md t σ.ln):=by
  obtain ⟨p0,ps,h0⟩:=ok.pu
  have h:=turnE (g:=g) (K:=K) (d:=d) (q:=q) (esc:=esc) (r:=r) (σ:=Sq σ md.st t) hcc h0 rfl hr
  have hs:=ne32 ok md hm
  cases md with
  | w =>
    rw [wStep (h.trans ((wayA ok.q97 ok.e97).trans eA))]
    exact Res.brk hm hr
  | u =>
    rw [wStep (h.trans ((wayC ok.q99 ok.e99).trans eC))]
    exact Res.brk hm hr
  | k m =>
    rw [wStep (h.trans (wayQe hs hm))]
    exact .bad _ _ _ _ _ _ _ rfl hr
  | x s b =>
    rw [wStep (h.trans (wayEe hs (ok.eq _ hm.1) hm.1))]
    exact .bad _ _ _ _ _ _ _ rfl hr
theorem lenCons {rs:List Nat} {m:Nat} (h:(c :: rs).length ≤ m+1):rs.length ≤ m∧(afterLine rs).length ≤ m:=⟨Nat.le_of_succ_le_succ h,Nat.le_trans (afterLine_len rs) (Nat.le_of_succ_le_succ h)⟩
theorem nonil {t:List Nat} {c:Nat}:t++[c] ≠ []:=fun e=>nomatch (List.append_eq_nil_iff.mp e).2
theorem loop_cons {m f:Nat} {rs:List Nat} (ih:Loop g K d r m) (hm1:(c :: rs).length ≤ m+1) (hf:m+1 < f+1) (ok:LxOk σ) (hm:MdOk σ esc t q md) (hcc:nc=.un ∨ ∃ v,nc=.val v) (hl:t.length+2 * (c :: rs).length < 2 ^ 22) (hr:Rep σ.buf σ.pos σ.pb (c :: rs)) :
    Res g r σ.put σ.buf (WT K d (f+1) (rl q esc nc r) (hp g (Sq σ md.st t))) (rd σ.par (c :: rs) md t σ.ln):=by
  obtain ⟨p0,ps,h0⟩:=ok.pu
  obtain ⟨p',hr',h⟩:=turnC (g:=g) (K:=K) (d:=d) (q:=q) (esc:=esc) (r:=r) (σ:=Sq σ md.st t) hcc h0 rfl hr ok.len
  obtain ⟨n',en,hr2⟩:=rep_line (buf:=σ.buf) hr'
  have hs:=ne32 ok md hm
  have hm1:=(lenCons hm1).1
  have hf:=Nat.lt_of_succ_lt_succ hf
  rw [List.length_cons] at hl
  have hlim:t.length+2 ≤ lim:=by unfold lim; omega
  have on:∀ (md':Md) (t':List Nat) (q':Bool) (esc':List Nat),MdOk σ esc' t' q' md'→t'.length ≤ t.length+2→Res g r σ.put σ.buf (WT K d f (rl q' esc' (chV c) r) (hp g (Sq (at_ σ (lnA c σ.ln) p') md'.st t'))) (rd σ.par rs md' t' (lnA c σ.ln)):=fun md' t' q' esc' h1 h2 =>
    ih rs f (at_ σ (lnA c σ.ln) p') md' t' (chV c) q' esc' hm1 hf (ok.at σ.tok σ.st _ _ _) (by cases md'<;>exact h1) (.inr ⟨_,rfl⟩) (by omega) hr'
  cases md with
  | w =>
    rw [wStep (h.trans ((wayA (σ:=at_ σ (lnA c σ.ln) p') ok.q97 ok.e97).trans (t67 (σ:=at_ σ (lnA c σ.ln) p') (fun _=>rdL (σ:=Sq (at_ σ (lnA c σ.ln) p') 97 t) en ok.len) hm)))]
    refine Res.ite (fun _=>Res.brk hm hr') fun _=>Res.ite (fun _=>Res.brk hm hr2) fun _=>?_
    rw [show execs tab (cfD K d) K b18_66 (rl q esc (chV c) r) (hp g (Sq (at_ σ (lnA c σ.ln) p') 97 t))=_ from tA (σ:=at_ σ (lnA c σ.ln) p') h0 rfl hm (Nat.le_of_succ_le hlim)]
    exact Res.ite (fun hq=>on (.k c) t q esc hq (Nat.le_add_right _ 2)) fun _=>Res.ite (fun he=>on (.x c 97) t q [97] ⟨he,rfl,.inl rfl⟩ (Nat.le_add_right _ 2)) fun _=>Res.ite (fun _=>on .w (t++[c]) q esc (.inl nonil) (by rw [List.length_append]; exact Nat.le_succ _)) fun _=>Res.brk hm (rep_back hr' c)
  | u =>
    rw [wStep (h.trans ((wayC (σ:=at_ σ (lnA c σ.ln) p') ok.q99 ok.e99).trans (t67 (σ:=at_ σ (lnA c σ.ln) p') (fun _=>rdL (σ:=Sq (at_ σ (lnA c σ.ln) p') 99 t) en ok.len) hm)))]
    refine Res.ite (fun _=>Res.brk hm hr') fun hws=>Res.ite (fun _=>Res.brk hm hr2) fun _=>?_
    rw [show execs tab (cfD K d) K b18_66 (rl q esc (chV c) r) (hp g (Sq (at_ σ (lnA c σ.ln) p') 99 t))=_ from tC (σ:=at_ σ (lnA c σ.ln) p') rfl (Bool.eq_false_iff.mpr hws) (Nat.le_of_succ_le hlim)]
    exact Res.ite (fun _=>on .u (t++[c]) q esc (.inl nonil) (by rw [List.length_append]; exact Nat.le_succ _)) fun _=>Res.brk hm (rep_back hr' c)
  | k m =>
    rw [wStep (h.trans (wayQ (σ:=at_ σ (lnA c σ.ln) p') hs hm (Nat.le_of_succ_le hlim)))]
    exact Res.ite (fun _=>on .w t true esc (.inr rfl) (Nat.le_add_right _ 2)) fun _=>Res.ite (fun he=>on (.x c m) t true [m] ⟨(Bool.and_eq_true_iff.mp he).1,rfl,.inr hm⟩ (Nat.le_add_right _ 2)) fun _=>on (.k m) (t++[c]) true esc hm (by rw [List.length_append]; exact Nat.le_succ _)
  | x s b =>
    obtain ⟨he,e,hb⟩:=hm
    have hk:(kept (σ.qs.contains b) s b c).length ≤ 1:=by unfold kept; split<;>simp
    subst e
    rw [wStep (h.trans (wayE (σ:=at_ σ (lnA c σ.ln) p') hs (ok.eq _ he) he hlim))]
    have:=on (back b) (t++kept (σ.qs.contains b) s b c++[c]) q [b] (by
      unfold back
      by_cases h97:b=97
      · rw [if_pos h97]; exact .inl nonil
      · rw [if_neg h97]; exact hb.elim (fun e=>absurd e h97) id) (by rw [List.length_append,List.length_append]; exact Nat.add_le_add_right (Nat.add_le_add_left hk _) 1)
    rw [back_st] at this
    exact this
theorem loopR (m:Nat):Loop g K d r m:=by
  induction m with
  | zero =>
    intro rest f σ md t nc q esc hm hf ok hmd hcc hl hr
    cases f with
    | zero=>exact absurd hf (Nat.lt_irrefl 0)
    | succ f=>cases rest with
      | nil=>exact loop_nil ok hmd hcc hr
      | cons c rs=>exact absurd hm (Nat.not_succ_le_zero _)
  | succ m ih =>
    intro rest f σ md t nc q esc hm hf ok hmd hcc hl hr
    cases f with
    | zero=>exact absurd hf (Nat.not_lt_zero _)
    | succ f=>cases rest with
      | nil=>exact loop_nil ok hmd hcc hr
      | cons c rs=>exact loop_cons ih hm hf ok hmd hcc hl hr
noncomputable def Loop0 (g:G) (K d:Nat) (r:LV) (m:Nat):Prop:=∀ (rest:List Nat) (f:Nat) (σ:Lx) (nc:LV) (esc:List Nat),rest.length ≤ m→m < f→LxOk σ→(nc=.un ∨ ∃ v,nc=.val v)→rest.length < 2 ^ 20→Rep σ.buf σ.pos σ.pb rest →
    Res g r σ.put σ.buf (WT K d f (rl false esc nc r) (hp g (S32 σ))) (r0 σ.par σ.ln false rest)
theorem loop0_nil {f:Nat} (ok:LxOk σ) (hcc:nc=.un ∨ ∃ v,nc=.val v) (hr:Rep σ.buf σ.pos σ.pb []):Res g r σ.put σ.buf (WT K d (f+1) (rl false esc nc r) (hp g (S32 σ))) (r0 σ.par σ.ln false []):=by
  obtain ⟨p0,ps,h0⟩:=ok.pu
  rw [wStep ((turnE (σ:=S32 σ) hcc h0 rfl hr).trans way32e)]
  exact .eof _ _ _ _ _ rfl hr
theorem loop0_cons {m f:Nat} {rs:List Nat} (ih:Loop0 g K d r m) (hm1:(c :: rs).length ≤ m+1) (hf:m+1 < f+1) (ok:LxOk σ) (hcc:nc=.un ∨ ∃ v,nc=.val v) (hl:(c :: rs).length < 2 ^ 20) (hr:Rep σ.buf σ.pos σ.pb (c :: rs)) :
    Res g r σ.put σ.buf (WT K d (f+1) (rl false esc nc r) (hp g (S32 σ))) (r0 σ.par σ.ln false (c :: rs)):=by
  obtain ⟨p0,ps,h0⟩:=ok.pu
  obtain ⟨p',hr',h⟩:=turnC (g:=g) (K:=K) (d:=d) (q:=false) (esc:=esc) (r:=r) (σ:=S32 σ) hcc h0 rfl hr ok.len
  obtain ⟨n',en,hr2⟩:=rep_line (buf:=σ.buf) hr'
  have hm1:=lenCons hm1
  have al:=afterLine_len rs
  have hf:=Nat.lt_of_succ_lt_succ hf
  rw [List.length_cons] at hl
  have on:∀ (md':Md) (t':List Nat) (esc':List Nat),MdOk σ esc' t' false md'→t'.length ≤ 1→Res g r σ.put σ.buf (WT K d f (rl false esc' (chV c) r) (hp g (Sq (at_ σ (lnA c σ.ln) p') md'.st t'))) (rd σ.par rs md' t' (lnA c σ.ln)):=fun md' t' esc' h1 h2 =>
    loopR m rs f (at_ σ (lnA c σ.ln) p') md' t' (chV c) false esc' hm1.1 hf (ok.at σ.tok σ.st _ _ _) (by cases md'<;>exact h1) (.inr ⟨_,rfl⟩) (by omega) hr'
  rw [wStep (h.trans ((way32 (σ:=at_ σ (lnA c σ.ln) p')).trans (t26 (σ:=at_ σ (lnA c σ.ln) p') (fun _=>rdL (σ:=S32 (at_ σ (lnA c σ.ln) p')) en ok.len))))]
  have one:∀ {a:Nat},[a] ≠ []:=fun e=>nomatch e
  refine Res.ite (fun _=>?_) fun _=>Res.ite (fun _=>?_) fun _=>Res.ite (fun he=>on (.x c 97) [] [97] ⟨he,rfl,.inl rfl⟩ (Nat.zero_le 1)) fun _=>Res.ite (fun _=>on .w [c] esc (.inl one) (Nat.le_refl 1)) fun _=>Res.ite (fun _=>on .u [c] esc (.inl one) (Nat.le_refl 1)) fun _=>Res.ite (fun hq=>on (.k c) [] esc hq (Nat.zero_le 1)) fun _ =>
    Res.ite (fun _=>on .w [c] esc (.inl one) (Nat.le_refl 1)) fun _=>Res.brk (.inl one) hr'
  · exact ih rs f (at_ σ (lnA c σ.ln) p') (chV c) esc hm1.1 hf (ok.at σ.tok σ.st _ _ _) (.inr ⟨_,rfl⟩) (Nat.lt_of_succ_lt hl) hr'
  · rw [r0_line]
    exact ih (afterLine rs) f (at_ σ (lnA c σ.ln+1) (lineEnd σ.buf n':Int)) (chV c) esc hm1.2 hf (ok.at σ.tok σ.st _ _ _) (.inr ⟨_,rfl⟩) (by omega) hr2
theorem loop0 (m:Nat):Loop0 g K d r m:=by
  induction m with
  | zero =>
    intro rest f σ nc esc hm hf ok hcc hl hr
    cases f with
    | zero=>exact absurd hf (Nat.lt_irrefl 0)
    | succ f=>cases rest with
      | nil=>exact loop0_nil ok hcc hr
      | cons c rs=>exact absurd hm (Nat.not_succ_le_zero _)
  | succ m ih =>
    intro rest f σ nc esc hm hf ok hcc hl hr
    cases f with
    | zero=>exact absurd hf (Nat.not_lt_zero _)
    | succ f=>cases rest with
      | nil=>exact loop0_nil ok hcc hr
      | cons c rs=>exact loop0_cons ih hm hf ok hcc hl hr
end
section
variable {g:G} {σ σ':Lx} {K d:Nat} {c s:Nat} {q:Bool} {esc m:List Nat} {v:V} {l:List LV}
noncomputable abbrev rest18:Sts:=.cons (.asg 4 (.attr (.loc 0) 15)) (.cons (.asgA (.loc 0) 15 (.lit (.str []))) (.cons (.if_ (.boolop true (.cons (.attr (.loc 0) 2) (.cons (.not_ (.loc 1)) (.cons (.cmp .eq (.loc 4) (.lit (.str []))) .nil)))) b18_75 .nil) (.cons (.if_ (.cmp .gt (.attr (.loc 0) 14) (.lit (.int 1))) b18_78 .nil) (.cons (.ret (.loc 4)) (.nil)))))
noncomputable abbrev rtE (K d:Nat) (g:G) (X:RS):R V:=endCall 28 (X.seq (execs tab (cfD K d) K rest18))
theorem rtStart:callF tab K (d+4) 18 [.obj 12] (hp g σ)=rtE K d g (WT K d K (rl false [32] .un .un) (hp g σ)):=by rfl
theorem rtOk (h:σ'.tok ≠ [] ∨ q=true):rtE K d g (.next (rl q esc (.val v) .un) (hp g σ'))=.ok (.str σ'.tok) (hp g { σ' with tok:=[] }):=by
  obtain ⟨cm,wc,ws,sp,qs,es,eq,st,ln,tok,pu,buf,pos,pb⟩:=σ'
  cases tok with
  | cons a r=>cases q<;>rfl
  | nil =>
    have h:q=true:=h.elim (fun h=>absurd rfl h) id
    rw [h]; rfl
theorem rtEof (h:σ'.tok=[]):rtE K d g (.next (rl false esc (.val v) .un) (hp g σ'))=.ok .none (hp g σ'):=by
  obtain ⟨cm,wc,ws,sp,qs,es,eq,st,ln,tok,pu,buf,pos,pb⟩:=σ'
  dsimp only at h
  subst h
  rfl
theorem rtExc:rtE K d g (.exc 2 m l (hp g σ'))=.exc m (hp g σ'):=rfl
inductive Got (g:G) (mk:List Nat→V→Int→Int→List V→Lx) (buf:List Nat) (W:R V):Tk→Prop
  | ok (t rest:List Nat) (ln:Int) (st:V) (p':Int) (pb':List V) (h:W=.ok (.str t) (hp g (mk [] st ln p' pb'))) (hr:Rep buf p' pb' rest):Got g mk buf W (.ok t rest ln st)
  | eof (ln:Int) (p':Int) (pb':List V) (h:W=.ok .none (hp g (mk [] .none ln p' pb'))) (hr:Rep buf p' pb' []):Got g mk buf W (.eof ln)
  | bad (m t:List Nat) (ln:Int) (s:Nat) (p':Int) (pb':List V) (h:W=.exc m (hp g (mk t (.str [s]) ln p' pb'))) (hr:Rep buf p' pb' []):Got g mk buf W (.bad m t ln s)
noncomputable abbrev rest17:Sts:=.cons (.if_ (.cmp .isNot (.attr (.loc 0) 17) (.lit (.none))) b17_4 .nil) (.cons (.while_ (.cmp .eq (.loc 2) (.attr (.loc 0) 3)) b17_7) (.cons (.if_ (.cmp .ge (.attr (.loc 0) 14) (.lit (.int 1))) b17_10 .nil) (.cons (.ret (.loc 2)) (.nil))))
theorem gtStart:callF tab K (d+5) 17 [.obj 12] (hp g σ)=endCall 28 (((callF tab K (d+4) 18 [.obj 12] (hp g σ)).st [.val (.obj 12),.un,.un,.un,.un,.un,.un,.un] fun v s=>setLoc [.val (.obj 12),.un,.un,.un,.un,.un,.un,.un] s 2 v).seq (execs tab (callF tab K (d+4)) K rest17)):=by rfl
theorem gtOk {t:List Nat} (hK:0 < K) (h:callF tab K (d+4) 18 [.obj 12] (hp g σ)=.ok (.str t) (hp g σ')):callF tab K (d+5) 17 [.obj 12] (hp g σ)=.ok (.str t) (hp g σ'):=by
  cases K with
  | zero=>exact absurd hK (Nat.lt_irrefl 0)
  | succ f=>rw [gtStart,h]; rfl
theorem gtNone (hK:0 < K) (h:callF tab K (d+4) 18 [.obj 12] (hp g σ)=.ok .none (hp g σ')):callF tab K (d+5) 17 [.obj 12] (hp g σ)=.ok .none (hp g σ'):=by
  cases K with
  | zero=>exact absurd hK (Nat.lt_irrefl 0)
  | succ f=>rw [gtStart,h]; rfl
theorem gtExc (h:callF tab K (d+4) 18 [.obj 12] (hp g σ)=.exc m (hp g σ')):callF tab K (d+5) 17 [.obj 12] (hp g σ)=.exc m (hp g σ'):=by
  rw [gtStart,h]
  rfl
theorem getTok {rest:List Nat} (ok:LxOk σ) (ht:σ.tok=[]) (hst:σ.st=.str [32]) (hK:rest.length < K) (hr:Rep σ.buf σ.pos σ.pb rest) (hl:rest.length < 2 ^ 20) :
    Got g σ.put σ.buf (callF tab K (d+5) 17 [.obj 12] (hp g σ)) (r0 σ.par σ.ln false rest):=by
  have e:S32 σ=σ:=by
    obtain ⟨cm,wc,ws,sp,qs,es,eq,st,ln,tok,pu,buf,pos,pb⟩:=σ
    dsimp only at ht hst
    subst ht hst
    rfl
  have h:=loop0 (g:=g) (K:=K) (d:=d) (r:=.un) rest.length rest K σ .un [32] (Nat.le_refl _) hK ok (.inl rfl) hl hr
  have h0:0 < K:=Nat.lt_of_le_of_lt (Nat.zero_le _) hK
  rw [e] at h
  have h1:=rtStart (g:=g) (σ:=σ) (K:=K) (d:=d)
  generalize r0 σ.par σ.ln false rest=tk at h
  rcases h with ⟨t,rest',ln,st,q',esc',v,p',pb',hq,hw,hr'⟩ | ⟨ln,esc',v,p',pb',hw,hr'⟩ | ⟨m,t,ln,s,l,p',pb',hw,hr'⟩
  · rw [hw,rtOk (σ':=σ.put t st ln p' pb') hq] at h1
    exact .ok t rest' ln st p' pb' (gtOk h0 h1) hr'
  · rw [hw,rtEof (σ':=σ.put [] .none ln p' pb') rfl] at h1
    exact .eof ln p' pb' (gtNone h0 h1) hr'
  · rw [hw,rtExc] at h1
    exact .bad m t ln s p' pb' (gtExc h1) hr'
theorem getEnd {p0:Nat} {ps:List Nat} (h0:σ.pu=p0 :: ps) (ht:σ.tok=[]) (hst:σ.st=.none) (hK:0 < K) (hr:Rep σ.buf σ.pos σ.pb []):callF tab K (d+5) 17 [.obj 12] (hp g σ)=.ok .none (hp g σ):=by
  have h1:=rtStart (g:=g) (σ:=σ) (K:=K) (d:=d)
  cases K with
  | zero=>exact absurd hK (Nat.lt_irrefl 0)
  | succ f =>
    have h:=turnN (g:=g) (K:=f+1) (d:=d) (esc:=[32]) (r:=.un) (q:=false) (nc:=.un) (.inl rfl) h0 hst hr
    rw [wStep h] at h1
    have e:({ σ with tok:=[] }:Lx)=σ:=by
      obtain ⟨cm,wc,ws,sp,qs,es,eq,st,ln,tok,pu,buf,pos,pb⟩:=σ
      dsimp only at ht
      subst ht
      rfl
    rw [e] at h1
    exact gtNone hK (h1.trans (rtEof ht))
theorem getBad {P:Bool} (ok:LxOk σ) (hst:σ.st=.str [s]) (hs:P=true∧σ.qs.contains s=true ∨ P=false∧σ.es.contains s=true) (hK:0 < K) (hr:Rep σ.buf σ.pos σ.pb []):callF tab K (d+5) 17 [.obj 12] (hp g σ)=.exc (if P=true then noClose else noEsc) (hp g σ):=by
  obtain ⟨p0,ps,h0⟩:=ok.pu
  have e:Sq σ s σ.tok=σ:=by
    obtain ⟨cm,wc,ws,sp,qs,es,eq,st,ln,tok,pu,buf,pos,pb⟩:=σ
    dsimp only at hst
    subst hst
    rfl
  have h1:=rtStart (g:=g) (σ:=σ) (K:=K) (d:=d)
  cases K with
  | zero=>exact absurd hK (Nat.lt_irrefl 0)
  | succ f =>
    have h:=turnE (g:=g) (K:=f+1) (d:=d) (q:=false) (esc:=[32]) (r:=.un) (nc:=.un) (.inl rfl) h0 hst hr
    rw [← e] at h
    have hw:∃ l,execs tab (cfD (f+1) d) (f+1) b18_74 (rl false [32] .un .un) (hp g (Sq σ s σ.tok))=.exc 0 (if P=true then noClose else noEsc) l (hp g (Sq σ s σ.tok)):=by
      rcases hs with ⟨e1,e2⟩ | ⟨e1,e2⟩
      · rw [e1]
        exact ⟨_,h.trans (wayQe (fun e=>Bool.false_ne_true (ok.q32.symm.trans ((congrArg σ.qs.contains e.symm).trans e2))) e2)⟩
      · rw [e1]
        exact ⟨_,h.trans (wayEe (fun e=>Bool.false_ne_true (ok.e32.symm.trans ((congrArg σ.es.contains e.symm).trans e2))) (ok.eq _ e2) e2)⟩
    obtain ⟨l,hw⟩:=hw
    rw [e] at hw
    rw [wStep hw] at h1
    exact gtExc h1
end
inductive TkOk (P:Par) (n:Nat):Tk→Prop
  | ok (t rest:List Nat) (ln:Int) (st:V) (h:st=.none∧rest=[] ∨ st=.str [32]) (hl:rest.length ≤ n):TkOk P n (.ok t rest ln st)
  | eof (ln:Int):TkOk P n (.eof ln)
  | close (t:List Nat) (ln:Int) (s:Nat) (h:P.qs.contains s=true):TkOk P n (.bad noClose t ln s)
  | esc (t:List Nat) (ln:Int) (s:Nat) (h:P.es.contains s=true):TkOk P n (.bad noEsc t ln s)
theorem TkOk.up {P:Par} {n m:Nat} {tk:Tk} (h:TkOk P n tk) (hn:n ≤ m):TkOk P m tk:=by
  cases h with
  | ok t rest ln st h hl=>exact .ok t rest ln st h (Nat.le_trans hl hn)
  | eof ln=>exact .eof ln
  | close t ln s h=>exact .close t ln s h
  | esc t ln s h=>exact .esc t ln s h
theorem iteP {α:Type} {P:α→Prop} {c:Prop} [Decidable c] {a b:α} (h1:c→P a) (h2:¬c→P b):P (if c then a else b):=by
  by_cases h:c
  · rw [if_pos h]; exact h1 h
  · rw [if_neg h]; exact h2 h
noncomputable def MdP (P:Par):Md→Prop
  | .w=>True
  | .u=>True
  | .k m=>P.qs.contains m=true
  | .x s b=>P.es.contains s=true∧(b=97 ∨ P.qs.contains b=true)
theorem rd_ok (P:Par) (rest:List Nat):∀ (md:Md) (t:List Nat) (ln:Int),MdP P md→TkOk P rest.length (rd P rest md t ln):=by
  induction rest with
  | nil =>
    intro md t ln h
    cases md with
    | w=>exact .ok _ _ _ _ (.inl ⟨rfl,rfl⟩) (Nat.le_refl 0)
    | u=>exact .ok _ _ _ _ (.inl ⟨rfl,rfl⟩) (Nat.le_refl 0)
    | k m=>exact .close _ _ _ h
    | x s b=>exact .esc _ _ _ h.1
  | cons c r ih =>
    intro md t ln h
    have on:∀ (md:Md) (t:List Nat) (ln:Int),MdP P md→TkOk P (r.length+1) (rd P r md t ln):=fun md t ln h=>(ih md t ln h).up (Nat.le_succ _)
    have e1:∀ (t:List Nat) (ln:Int),TkOk P (r.length+1) (.ok t r ln (.str [32])):=fun t ln=>.ok _ _ _ _ (.inr rfl) (Nat.le_succ _)
    have e2:∀ (t:List Nat) (ln:Int),TkOk P (r.length+1) (.ok t (afterLine r) ln (.str [32])):=fun t ln=>.ok _ _ _ _ (.inr rfl) (Nat.le_succ_of_le (afterLine_len r))
    have e3:∀ (t:List Nat) (ln:Int),TkOk P (r.length+1) (.ok t (c :: r) ln (.str [32])):=fun t ln=>.ok _ _ _ _ (.inr rfl) (Nat.le_refl _)
    cases md with
    | w=>exact iteP (P:=TkOk P (r.length+1)) (c:=P.ws.contains c=true) (fun _=>e1 _ _) fun _=>iteP (P:=TkOk P (r.length+1)) (c:=P.cm.contains c=true) (fun _=>e2 _ _) fun _=>iteP (P:=TkOk P (r.length+1)) (c:=P.qs.contains c=true) (fun h=>on (.k c) _ _ h) fun _=>iteP (P:=TkOk P (r.length+1)) (c:=P.es.contains c=true) (fun h=>on (.x c 97) _ _ ⟨h,.inl rfl⟩) fun _=>iteP (P:=TkOk P (r.length+1)) (c:=inW P c=true) (fun _=>on .w _ _ trivial) fun _=>e3 _ _
    | u=>exact iteP (P:=TkOk P (r.length+1)) (c:=P.ws.contains c=true) (fun _=>e1 _ _) fun _=>iteP (P:=TkOk P (r.length+1)) (c:=P.cm.contains c=true) (fun _=>e2 _ _) fun _=>iteP (P:=TkOk P (r.length+1)) (c:=P.pu.contains c=true) (fun _=>on .u _ _ trivial) fun _=>e3 _ _
    | k m=>exact iteP (P:=TkOk P (r.length+1)) (c:=(c == m)=true) (fun _=>on .w _ _ trivial) fun _=>iteP (P:=TkOk P (r.length+1)) (c:=(P.es.contains c&&P.eq.contains m)=true) (fun he=>on (.x c m) _ _ ⟨(Bool.and_eq_true_iff.mp he).1,.inr h⟩) fun _=>on (.k m) _ _ h
    | x s b =>
      refine on (back b) _ _ ?_
      unfold back
      by_cases h97:b=97
      · rw [if_pos h97]; trivial
      · rw [if_neg h97]; exact h.2.elim (fun e=>absurd e h97) id
theorem r0_ok (P:Par) (rest:List Nat):∀ (ln:Int) (cm:Bool),TkOk P rest.length (r0 P ln cm rest):=by
  induction rest with
  | nil=>intro ln cm; cases cm<;>exact .eof _
  | cons c r ih =>
    intro ln cm
    have on:∀ (md:Md) (t:List Nat) (ln:Int),MdP P md→TkOk P (r.length+1) (rd P r md t ln):=fun md t ln h=>(rd_ok P r md t ln h).up (Nat.le_succ _)
    have on0:∀ (ln:Int) (cm:Bool),TkOk P (r.length+1) (r0 P ln cm r):=fun ln cm=>(ih ln cm).up (Nat.le_succ _)
    cases cm with
    | true=>exact iteP (P:=TkOk P (r.length+1)) (c:=c=10) (fun _=>on0 _ _) fun _=>on0 _ _
    | false=>exact iteP (P:=TkOk P (r.length+1)) (c:=P.ws.contains c=true) (fun _=>on0 _ _) fun _=>iteP (P:=TkOk P (r.length+1)) (c:=P.cm.contains c=true) (fun _=>on0 _ _) fun _=>iteP (P:=TkOk P (r.length+1)) (c:=P.es.contains c=true) (fun h=>on (.x c 97) _ _ ⟨h,.inl rfl⟩) fun _=>iteP (P:=TkOk P (r.length+1)) (c:=P.wc.contains c=true) (fun _=>on .w _ _ trivial) fun _=>iteP (P:=TkOk P (r.length+1)) (c:=P.pu.contains c=true) (fun _=>on .u _ _ trivial) fun _=>iteP (P:=TkOk P (r.length+1)) (c:=P.qs.contains c=true) (fun h=>on (.k c) _ _ h) fun _=>iteP (P:=TkOk P (r.length+1)) (c:=P.sp=true) (fun _=>on .w _ _ trivial) fun _=>.ok _ _ _ _ (.inr rfl) (Nat.le_succ _)
inductive Tz where
  | ok (t rest:List Nat)
  | eof
  | bad (m:List Nat)
noncomputable def rz:Tk→Tz
  | .ok t rest _ _=>.ok t rest
  | .eof _=>.eof
  | .bad m _ _ _=>.bad m
theorem rz_ite {p:Prop} [Decidable p] {a b a' b':Tk} (h1:rz a=rz a') (h2:rz b=rz b'):rz (if p then a else b)=rz (if p then a' else b'):=by
  by_cases h:p
  · rw [if_pos h,if_pos h,h1]
  · rw [if_neg h,if_neg h,h2]
theorem rz_rd (P:Par) (r:List Nat):∀ (md:Md) (t:List Nat) (l1 l2:Int),rz (rd P r md t l1)=rz (rd P r md t l2):=by
  induction r with
  | nil=>intro md t l1 l2; cases md<;>rfl
  | cons c r ih =>
    intro md t l1 l2
    cases md with
    | w=>exact rz_ite (p:=P.ws.contains c=true) rfl (rz_ite (p:=P.cm.contains c=true) rfl (rz_ite (p:=P.qs.contains c=true) (ih _ _ _ _) (rz_ite (p:=P.es.contains c=true) (ih _ _ _ _) (rz_ite (p:=inW P c=true) (ih _ _ _ _) rfl))))
    | u=>exact rz_ite (p:=P.ws.contains c=true) rfl (rz_ite (p:=P.cm.contains c=true) rfl (rz_ite (p:=P.pu.contains c=true) (ih _ _ _ _) rfl))
    | k m=>exact rz_ite (p:=(c == m)=true) (ih _ _ _ _) (rz_ite (p:=(P.es.contains c&&P.eq.contains m)=true) (ih _ _ _ _) (ih _ _ _ _))
    | x s b=>exact ih _ _ _ _
theorem rz_r0 (P:Par) (r:List Nat):∀ (cm:Bool) (l1 l2:Int),rz (r0 P l1 cm r)=rz (r0 P l2 cm r):=by
  induction r with
  | nil=>intro cm l1 l2; cases cm<;>rfl
  | cons c r ih =>
    intro cm l1 l2
    cases cm with
    | true=>exact rz_ite (p:=c=10) (ih _ _ _) (ih _ _ _)
    | false=>exact rz_ite (p:=P.ws.contains c=true) (ih _ _ _) (rz_ite (p:=P.cm.contains c=true) (ih _ _ _) (rz_ite (p:=P.es.contains c=true) (rz_rd _ _ _ _ _ _) (rz_ite (p:=P.wc.contains c=true) (rz_rd _ _ _ _ _ _) (rz_ite (p:=P.pu.contains c=true) (rz_rd _ _ _ _ _ _) (rz_ite (p:=P.qs.contains c=true) (rz_rd _ _ _ _ _ _) (rz_ite (p:=P.sp=true) (rz_rd _ _ _ _ _ _) rfl))))))
noncomputable def dz (P:Par) (r:List Nat) (md:Md) (t:List Nat):Tz:=rz (rd P r md t 0)
noncomputable def z0 (P:Par) (r:List Nat):Tz:=rz (r0 P 0 false r)
section
variable {P:Par} {c:Nat} {r t:List Nat} {m s b:Nat}
theorem if_rz {p:Prop} [Decidable p] {a b:Tk} {x y:Tz} (h1:rz a=x) (h2:rz b=y):rz (if p then a else b)=if p then x else y:=by
  by_cases h:p
  · rw [if_pos h,if_pos h,h1]
  · rw [if_neg h,if_neg h,h2]
theorem dz_w:dz P (c :: r) .w t=if P.ws.contains c=true then .ok t r else if P.cm.contains c=true then .ok t (afterLine r) else if P.qs.contains c=true then dz P r (.k c) t else if P.es.contains c=true then dz P r (.x c 97) t else if inW P c=true then dz P r .w (t++[c]) else .ok t (c :: r) :=
  if_rz (p:=P.ws.contains c=true) rfl (if_rz (p:=P.cm.contains c=true) rfl (if_rz (p:=P.qs.contains c=true) (rz_rd _ _ _ _ _ _) (if_rz (p:=P.es.contains c=true) (rz_rd _ _ _ _ _ _) (if_rz (p:=inW P c=true) (rz_rd _ _ _ _ _ _) rfl))))
theorem dz_u:dz P (c :: r) .u t=if P.ws.contains c=true then .ok t r else if P.cm.contains c=true then .ok t (afterLine r) else if P.pu.contains c=true then dz P r .u (t++[c]) else .ok t (c :: r) :=
  if_rz (p:=P.ws.contains c=true) rfl (if_rz (p:=P.cm.contains c=true) rfl (if_rz (p:=P.pu.contains c=true) (rz_rd _ _ _ _ _ _) rfl))
theorem dz_k:dz P (c :: r) (.k m) t=if (c == m)=true then dz P r .w t else if (P.es.contains c&&P.eq.contains m)=true then dz P r (.x c m) t else dz P r (.k m) (t++[c]) :=
  if_rz (p:=(c == m)=true) (rz_rd _ _ _ _ _ _) (if_rz (p:=(P.es.contains c&&P.eq.contains m)=true) (rz_rd _ _ _ _ _ _) (rz_rd _ _ _ _ _ _))
theorem dz_x:dz P (c :: r) (.x s b) t=dz P r (back b) (t++kept (P.qs.contains b) s b c++[c]):=by
  have h:dz P (c :: r) (.x s b) t=rz (rd P r (back b) (t++kept (P.qs.contains b) s b c++[c]) (lnA c 0)):=rfl
  exact h.trans (rz_rd _ _ _ _ _ _)
theorem z0_c:z0 P (c :: r)=if P.ws.contains c=true then z0 P r else if P.cm.contains c=true then z0 P (afterLine r) else if P.es.contains c=true then dz P r (.x c 97) [] else if P.wc.contains c=true then dz P r .w [c] else if P.pu.contains c=true then dz P r .u [c]
    else if P.qs.contains c=true then dz P r (.k c) [] else if P.sp=true then dz P r .w [c] else .ok [c] r :=
  if_rz (p:=P.ws.contains c=true) (rz_r0 _ _ _ _ _) (if_rz (p:=P.cm.contains c=true) ((congrArg rz (r0_line P _ r)).trans (rz_r0 _ _ _ _ _)) (if_rz (p:=P.es.contains c=true) (rz_rd _ _ _ _ _ _) (if_rz (p:=P.wc.contains c=true) (rz_rd _ _ _ _ _ _) (if_rz (p:=P.pu.contains c=true) (rz_rd _ _ _ _ _ _) (if_rz (p:=P.qs.contains c=true) (rz_rd _ _ _ _ _ _) (if_rz (p:=P.sp=true) (rz_rd _ _ _ _ _ _) rfl))))))
end
section
variable {text:List Nat} {p q c:Nat} {P:Par} {t:List Nat}
theorem drop_at (h:text[p]?=some c):text.drop p=c :: text.drop (p+1):=by
  obtain ⟨hp,hc⟩:=List.getElem?_eq_some_iff.mp h
  rw [List.drop_eq_getElem_cons hp,hc]
theorem drop_out (h:text[p]?=none):text.drop p=[]:=List.drop_eq_nil_of_le (List.getElem?_eq_none_iff.mp h)
theorem at_lt (h:text[p]?=some c):p < text.length:=(List.getElem?_eq_some_iff.mp h).1
theorem ff {b:Bool} (h:b=false):¬ b=true:=fun e=>Bool.false_ne_true (h.symm.trans e)
theorem cut1 (h:text[p]?=some c):(text.take (p+1)).drop p=[c]:=by
  rw [List.drop_take,drop_at h,Nat.add_sub_cancel_left]
  rfl
theorem cut_out (h:text[p]?=none):(text.take (p+1)).drop p=[]:=by
  rw [List.drop_take,drop_out h,List.take_nil]
theorem idx_nl (m:Nat):∀ p:Nat,p+m=text.length→(idxC 10 (text.drop p) p=-1∧afterLine (text.drop p)=[]) ∨ ∃ q:Nat,p ≤ q∧q < text.length∧idxC 10 (text.drop p) p=(q:Int)∧afterLine (text.drop p)=text.drop (q+1):=by
  induction m with
  | zero =>
    intro p h
    have h:p=text.length:=h
    rw [h,List.drop_length]
    exact .inl ⟨rfl,rfl⟩
  | succ m ih =>
    intro p h
    have hp:p < text.length:=h ▸ Nat.lt_add_of_pos_right (Nat.succ_pos m)
    have hc:=List.getElem?_eq_getElem hp
    generalize text[p]=c at hc
    rw [drop_at hc]
    have e1:idxC 10 (c :: text.drop (p+1)) p=if (c == 10)=true then (p:Int) else idxC 10 (text.drop (p+1)) (p+1):=rfl
    have e2:afterLine (c :: text.drop (p+1))=if c=10 then text.drop (p+1) else afterLine (text.drop (p+1)):=rfl
    rw [e1,e2]
    by_cases h10:c=10
    · rw [if_pos (beq_iff_eq.mpr h10),if_pos h10]
      exact .inr ⟨p,Nat.le_refl p,hp,rfl,rfl⟩
    · rw [if_neg (fun e=>h10 (beq_iff_eq.mp e)),if_neg h10]
      rcases ih (p+1) ((Nat.succ_add_eq_add_succ p m).trans h) with ⟨a,b⟩ | ⟨q,a,b,d,e⟩
      · exact .inl ⟨a,b⟩
      · exact .inr ⟨q,Nat.le_of_succ_le a,b,d,e⟩
inductive FinAt (P:Par) (text t:List Nat) (q:Nat) (tk:Tz):Prop
  | mk (r:List Nat) (h:tk=.ok t r) (hr:z0 P r=z0 P (text.drop q)):FinAt P text t q tk
theorem fin_at {md:Md} (h0:dz P [] md t=.ok t []) (hs:∀ c,text[q]?=some c→dz P (text.drop q) md t=if P.ws.contains c=true then .ok t (text.drop (q+1)) else if P.cm.contains c=true then .ok t (afterLine (text.drop (q+1))) else .ok t (text.drop q)):FinAt P text t q (dz P (text.drop q) md t):=by
  cases hc:text[q]? with
  | none=>exact .mk [] (by rw [drop_out hc]; exact h0) (by rw [drop_out hc])
  | some c =>
    rw [hs c hc]
    cases hw:P.ws.contains c with
    | true=>exact .mk _ (if_pos rfl) (by rw [drop_at hc,z0_c,if_pos hw])
    | false =>
      rw [if_neg Bool.false_ne_true]
      cases h35:P.cm.contains c with
      | true=>exact .mk _ (if_pos rfl) (by rw [drop_at hc,z0_c,if_neg (ff hw),if_pos h35])
      | false=>exact .mk _ (if_neg Bool.false_ne_true) rfl
end
noncomputable abbrev refused:List Nat:=[114,101,102,117,115,101,100]
noncomputable abbrev refE (m:List Nat):V:=.tup [.str refused,.str m]
noncomputable def foundL (P:Par):Nat→List Nat→List V
  | 0,_=>[]
  | m+1,rest=>match z0 P rest with
    | .ok t rest'=>.str t :: foundL P m rest'
    | .eof=>List.replicate (m+1) .none
    | .bad ms=>List.replicate (m+1) (refE ms)
section
variable {P:Par} {r r2 t m:List Nat}
theorem found_of (h:z0 P r=z0 P r2):∀ m,foundL P m r=foundL P m r2
  | 0=>rfl
  | m+1=>by
    show (match z0 P r with | .ok t rest'=>_ | .eof=>_ | .bad ms=>_)=_
    rw [h]
    rfl
theorem found_eof (h:z0 P r=.eof):∀ k,foundL P k r=List.replicate k .none
  | 0=>rfl
  | k+1=>by
    show (match z0 P r with | .ok t rest'=>_ | .eof=>_ | .bad ms=>_)=_
    rw [h]
theorem found_bad (h:z0 P r=.bad m):∀ k,foundL P k r=List.replicate k (refE m)
  | 0=>rfl
  | k+1=>by
    show (match z0 P r with | .ok t rest'=>_ | .eof=>_ | .bad ms=>_)=_
    rw [h]
theorem found_ok (h:z0 P r=.ok t r2) (k:Nat):foundL P (k+1) r=.str t :: foundL P k r2:=by
  show (match z0 P r with | .ok t rest'=>_ | .eof=>_ | .bad ms=>_)=_
  rw [h]
end
theorem found_low (P:Par) (n m:Nat):∀ (rest:List Nat),lows n (foundL P m rest)=true:=by
  have rep:∀ (e:V) (k:Nat),V.low n e=true→lows n (List.replicate k e)=true:=by
    intro e k he
    induction k with
    | zero=>rfl
    | succ k ih =>
      show (V.low n e&&lows n (List.replicate k e))=true
      rw [he,ih]; rfl
  induction m with
  | zero=>exact fun _=>rfl
  | succ m ih =>
    intro rest
    show lows n (match z0 P rest with | .ok t rest'=>_ | .eof=>_ | .bad ms=>_)=true
    cases z0 P rest with
    | ok t rest'=>exact ih rest'
    | eof=>exact rep _ _ rfl
    | bad ms=>exact rep _ _ rfl
theorem low_of {P:Par} {n:Nat} {r:List Nat} {e:V} (h:∀ k,foundL P k r=List.replicate k e):V.low n e=true:=by
  have h1:=found_low P n 1 r
  rw [h 1] at h1
  exact (Bool.and_eq_true_iff.mp h1).1
noncomputable def Fr (a:LV):Prop:=a=.un ∨ ∃ v,a=.val v
theorem Fr.v {v:V}:Fr (.val v):=.inr ⟨v,rfl⟩
theorem Fr.u:Fr .un:=.inl rfl
theorem lows_app (n:Nat) (xs ys:List V):lows n (xs++ys)=(lows n xs&&lows n ys):=by
  induction xs with
  | nil=>rfl
  | cons a xs ih =>
    show (V.low n a&&lows n (xs++ys))=((V.low n a&&lows n xs)&&lows n ys)
    rw [ih,Bool.and_assoc]
theorem aoLows_app (n:Nat) (xs ys:List AO):aoLows n (xs++ys)=(aoLows n xs&&aoLows n ys):=by
  induction xs with
  | nil=>rfl
  | cons a xs ih =>
    show (AO.low n a&&aoLows n (xs++ys))=((AO.low n a&&aoLows n xs)&&aoLows n ys)
    rw [ih,Bool.and_assoc]
theorem trim_id {n:Nat} {s:List AO} (h:aoLows n s=true):s.map (AO.trim n)=s:=by
  induction s with
  | nil=>rfl
  | cons a s ih =>
    obtain ⟨h1,h2⟩:=Bool.and_eq_true_iff.mp (show (AO.low n a&&aoLows n s)=true from h)
    rw [List.map_cons,ih h2]
    refine congrArg (· :: s) ?_
    cases a with
    | cell v =>
      cases v with
      | none=>rfl
      | some v=>exact if_pos h1
    | _=>rfl
theorem trim_tail {n:Nat} {l l':List LV} {s r:List AO} (hn:s.length=n) (hl:aoLows n s=true) (h1:l.map (LV.trim n)=l') (h2:celsLow n l=true) (he:r=[]→l'=l):trim n l (s++r)=(l',s):=by
  unfold trim
  split
  · rename_i h
    have h:r=[]:=by
      have h:=beq_iff_eq.mp h
      rw [List.length_append,hn] at h
      exact List.eq_nil_of_length_eq_zero (by omega)
    rw [h,List.append_nil,he h]
  · rw [← hn,List.take_append_of_le_length (Nat.le_refl _),List.take_length,hn,trim_id hl,hl,h2,if_pos (show (true&&true)=true from rfl),h1]
section
variable {s:List AO} {K d p q c:Nat} {text t T:List Nat} {l l2:List LV} {v:V}
theorem leave_same:leave s.length v s=.ok v s:=if_pos (beq_self_eq_true s.length)
theorem leave_tup {r:List AO} {vs:List V} (hl:aoLows s.length s=true) (hv:V.low s.length (.tup vs)=true):leave s.length (.tup vs) (s++r)=.ok (.tup vs) s:=by
  unfold leave
  split
  · rename_i h
    have h:r=[]:=by
      have h:=beq_iff_eq.mp h
      rw [List.length_append] at h
      exact List.eq_nil_of_length_eq_zero (by omega)
    rw [h,List.append_nil]
  · rw [List.take_append_of_le_length (Nat.le_refl _),List.take_length,if_pos hl]
    exact if_pos hv
theorem bndM {n m k:Nat} (hk:k < 2 ^ 59):bound n m (.int (k:Int))=some (min k n):=by
  show (if ((k:Int)).natAbs < 2 ^ 60 then some (clip n k) else none)=some _
  rw [if_pos (by rw [Int.natAbs_natCast]; omega)]
  show some (if (k:Int) < 0 then _ else min (k:Int).toNat n)=some _
  rw [if_neg (Int.not_lt.mpr (Int.natCast_nonneg k)),Int.toNat_natCast]
theorem cut_min {α:Type} {x:List α} {a b:Nat}:(x.take (min b x.length)).drop (min a x.length)=(x.take b).drop a:=by
  have e1:x.take (min b x.length)=x.take b:=by
    rcases Nat.le_total b x.length with h | h
    · rw [Nat.min_eq_left h]
    · rw [Nat.min_eq_right h,List.take_length,List.take_of_length_le h]
  rw [e1]
  rcases Nat.le_total a x.length with h | h
  · rw [Nat.min_eq_left h]
  · rw [Nat.min_eq_right h,List.drop_eq_nil_of_le (Nat.le_trans (List.length_take_le' _ _) (Nat.le_refl _)),List.drop_eq_nil_of_le (Nat.le_trans (List.length_take_le' _ _) h)]
theorem sliceM {a b:Nat} (hl:text.length ≤ 1000) (ha:a < 2 ^ 59) (hb:b < 2 ^ 59):sliceOp s (.str text) (.int (a:Int)) (.int (b:Int))=.ok (.str ((text.take b).drop a)) s:=by
  rw [slice2 (bndM ha) (bndM hb),cut_min]
theorem idx_str {x:List Nat} (hp:x[p]?=some c):idxOp s (.str x) (.int (p:Int))=.ok (.str [c]) s:=by
  show (if (0:Int) ≤ (p:Int) then R.opt x[(p:Int).toNat]? fun c=>R.ok (V.str [c]) s else .fail)=_
  rw [if_pos (Int.natCast_nonneg p),Int.toNat_natCast,hp]
  rfl
theorem end_at {x:AO}:(s++[x])[s.length]?=some x:=by rw [List.getElem?_append_right (Nat.le_refl _),Nat.sub_self]; rfl
noncomputable abbrev intsV (ds:List Nat):List V:=ds.map fun (n:Nat)=>V.int (n:Int)
theorem mem_ints (p:Nat) (S:List Nat):memInt (p:Int) (intsV S)=some (S.contains p):=by
  induction S with
  | nil=>rfl
  | cons y S ih =>
    show (memInt (p:Int) (intsV S)).map _=_
    rw [ih,List.contains_cons]
    refine congrArg some (congrArg (· || S.contains p) ?_)
    rw [Bool.eq_iff_iff,beq_iff_eq,beq_iff_eq]
    exact ⟨fun h=>(Int.ofNat.inj h).symm,fun h=>congrArg Int.ofNat h.symm⟩
theorem in_list {cf:Nat→List V→List AO→R V} {e:Ex} {es:Exs} {x:Nat} {S:List Nat} (h:evalE tab cf K l false e s=.ok (.int (x:Int)) s) (h2:evalEs tab cf K l es s=.ok (intsV S) s) (hS:S.length ≤ 100):evalE tab cf K l true (.cmp .in_ e (.list es)) s=.ok (.bool (S.contains x)) (s++[.list (intsV S)]):=by
  have e1:evalE tab cf K l false (.list es) s=.ok (.obj s.length) (s++[.list (intsV S)]):=by
    show (evalEs tab cf K l es s).bind _=_
    rw [h2]
    show (if (intsV S).length ≤ lim then (R.ok (V.obj s.length) (s++[.list (intsV S)]):R V) else .fail)=_
    rw [if_pos (by rw [List.length_map]; exact Nat.le_trans hS (by decide))]
  refine cmp_ok h e1 ?_
  show retB _ (((s++[.list (intsV S)])[s.length]?.bind AO.list?).bind fun vs=>memV vs (.int (x:Int)))=_
  rw [end_at]
  show retB _ (memInt (x:Int) (intsV S))=_
  rw [mem_ints]
  rfl
structure Di (RL OL:List (List Nat × V)) (ro ou:Nat→Nat) (text:List Nat) (s:List AO):Prop where
  r:s[6]?=some (.dict RL)
  o:s[7]?=some (.dict OL)
  lr:∀ c ∈ text,lookS [c] RL=some (.int (ro c:Int))
  lo:∀ c ∈ text,lookS [c] OL=some (.int (ou c:Int))
  low:∀ n,26 ≤ n→aoLows n s=true
  len:26 ≤ s.length
variable {RL OL:List (List Nat × V)} {ro ou:Nat→Nat}
theorem Di.role (D:Di RL OL ro ou text s) {r:List AO} (h:c ∈ text):idxOp (s++r) (.obj 6) (.str [c])=.ok (.int (ro c:Int)) (s++r):=by
  show R.opt (((s++r)[6]?).bind AO.dict?) (fun l=>R.opt (lookS [c] l) fun v=>(R.ok v (s++r):R V))=_
  rw [List.getElem?_append_left (Nat.lt_of_lt_of_le (by decide) D.len),D.r]
  show R.opt (lookS [c] RL) _=_
  rw [D.lr c h]
  rfl
theorem Di.outs (D:Di RL OL ro ou text s) {r:List AO} (h:c ∈ text):idxOp (s++r) (.obj 7) (.str [c])=.ok (.int (ou c:Int)) (s++r):=by
  show R.opt (((s++r)[7]?).bind AO.dict?) (fun l=>R.opt (lookS [c] l) fun v=>(R.ok v (s++r):R V))=_
  rw [List.getElem?_append_left (Nat.lt_of_lt_of_le (by decide) D.len),D.o]
  show R.opt (lookS [c] OL) _=_
  rw [D.lo c h]
  rfl
theorem Di.lw (D:Di RL OL ro ou text s):aoLows s.length s=true:=D.low _ D.len
end
section
variable {s:List AO} {K d p q c mk:Nat} {text t T:List Nat} {l l2:List LV} {v:V} {a5 a6:LV} {RL OL:List (List Nat × V)} {ro ou:Nat→Nat} {P:Par}
noncomputable def il (text:List Nat) (p mk:Nat) (t:List Nat) (a5 a6:LV):List LV:=[.val (.str text),.val (.int (p:Int)),.val (.obj 6),.val (.str [mk]),.val (.str t),a5,a6,.un]
noncomputable abbrev inX:Ex:=.boolop true (.cons (.cmp .lt (.loc 1) (.bi .len (.cons (.loc 0) .nil))) (.cons (.cmp .ne (.idx (.loc 0) (.loc 1)) (.loc 3)) .nil))
theorem one_ne {a b:Nat}:(([a]:List Nat) != [b])=!(a == b):=congrArg not one_eq
theorem in_at {cf:Nat→List V→List AO→R V} (hc:text[p]?=some c):evalE tab cf K (il text p mk t a5 a6) true inX s=.ok (.bool (!(c == mk))) s:=by
  refine and_t (s1:=s) ?_ (cmp_ok (idx_ok (loc_val rfl) (loc_val rfl) (idx_str hc)) (loc_val rfl) ?_)
  · show (R.ok (V.bool (decide ((p:Int) < (text.length:Int)))) s:R V)=_
    rw [decide_eq_true (Int.ofNat_lt.mpr (at_lt hc))]
  · show (R.ok (V.bool (([c]:List Nat) != [mk])) s:R V)=_
    rw [one_ne]
theorem in_out {cf:Nat→List V→List AO→R V} (hc:text[p]?=none):evalE tab cf K (il text p mk t a5 a6) true inX s=.ok (.bool false) s:=by
  refine and_f ?_
  show (R.ok (V.bool (decide ((p:Int) < (text.length:Int)))) s:R V)=_
  rw [decide_eq_false (fun x=>Nat.not_le_of_lt (Int.ofNat_lt.mp x) (List.getElem?_eq_none_iff.mp hc))]
noncomputable abbrev WI (K d:Nat):Nat→List LV→List AO→RS:=whileTurns (fun l s=>evalE tab (callF tab K d) K l true inX s) (fun l s=>execs tab (callF tab K d) K b6_3 l s)
noncomputable abbrev retI:Sts:=.cons (.ret (.tup (.cons (.loc 4) (.cons (.bin .add (.loc 1) (.lit (.int 1))) (.cons (.ife (.cmp .eq (.loc 1) (.bi .len (.cons (.loc 0) .nil))) (.lit (.str [78,111,32,99,108,111,115,105,110,103,32,113,117,111,116,97,116,105,111,110])) (.lit (.str []))) .nil))))) .nil
noncomputable abbrev XI (K d f:Nat) (l:List LV) (s:List AO):RS:=(WI K d f l s).seq (execs tab (callF tab K d) K retI)
theorem il_trim {n:Nat} (hn:26 ≤ n) (t5:List Nat) (t6:LV) (h6:t6=.un ∨ ∃ x,t6=.val (.str x)):(il text p mk t (.val (.str t5)) t6).map (LV.trim n)=il text p mk t (.val (.str t5)) t6∧celsLow n (il text p mk t (.val (.str t5)) t6)=true:=by
  have hd:decide (6 < n)=true:=decide_eq_true (Nat.lt_of_lt_of_le (by decide) hn)
  rcases h6 with e | ⟨x,e⟩<;>rw [e]
  · refine ⟨?_,rfl⟩
    show [LV.val (.str text),.val (.int (p:Int)),(if decide (6 < n)=true then LV.val (.obj 6) else .un),.val (.str [mk]),.val (.str t),.val (.str t5),.un,.un]=_
    rw [hd]; rfl
  · refine ⟨?_,rfl⟩
    show [LV.val (.str text),.val (.int (p:Int)),(if decide (6 < n)=true then LV.val (.obj 6) else .un),.val (.str [mk]),.val (.str t),.val (.str t5),.val (.str x),.un]=_
    rw [hd]; rfl
theorem XI_next {f p2:Nat} {t2 t5:List Nat} {t6:LV} {r:List AO} (D:Di RL OL ro ou text s) (hc:text[p]?=some c) (hm:(c == mk)=false) (h6:t6=.un ∨ ∃ x,t6=.val (.str x)) (eb:execs tab (callF tab K d) K b6_3 (il text p mk t a5 a6) s=.next (il text p2 mk t2 (.val (.str t5)) t6) (s++r)) :
    XI K d (f+1) (il text p mk t a5 a6) s=XI K d f (il text p2 mk t2 (.val (.str t5)) t6) s:=by
  have e1:WI K d (f+1) (il text p mk t a5 a6) s=loopRes (WI K d f) s.length true (execs tab (callF tab K d) K b6_3 (il text p mk t a5 a6) s):=while_t (by rw [in_at hc,hm]; rfl)
  obtain ⟨i1,i2⟩:=il_trim (text:=text) (p:=p2) (mk:=mk) (t:=t2) D.len t5 t6 h6
  show (WI K d (f+1) (il text p mk t a5 a6) s).seq _=_
  rw [e1,eb,loop_next,trim_tail rfl D.lw i1 i2 (fun _=>rfl)]
theorem XI_ret {f:Nat} {x:V} {s2:List AO} (hc:text[p]?=some c) (hm:(c == mk)=false) (eb:execs tab (callF tab K d) K b6_3 (il text p mk t a5 a6) s=.ret x s2):XI K d (f+1) (il text p mk t a5 a6) s=.ret x s2:=by
  have e1:WI K d (f+1) (il text p mk t a5 a6) s=loopRes (WI K d f) s.length true (execs tab (callF tab K d) K b6_3 (il text p mk t a5 a6) s):=while_t (by rw [in_at hc,hm]; rfl)
  show (WI K d (f+1) (il text p mk t a5 a6) s).seq _=_
  rw [e1,eb]
  rfl
theorem esc_eval (D:Di RL OL ro ou text s) (hc:text[p]?=some c) (hmk:mk ∈ text) {cf:Nat→List V→List AO→R V}:∃ r,evalE tab cf K (il text p mk t (.val (.str [c])) a6) true (.boolop true (.cons (.cmp .in_ (.idx (.loc 2) (.loc 3)) (.list (.cons (.lit (.int 6)) (.cons (.lit (.int 10)) .nil)))) (.cons (.cmp .in_ (.idx (.loc 2) (.loc 5)) (.list (.cons (.lit (.int 7)) (.cons (.lit (.int 11)) (.cons (.lit (.int 13)) .nil))))) .nil))) s =
    .ok (.bool (([6,10]:List Nat).contains (ro mk)&&([7,11,13]:List Nat).contains (ro c))) (s++r):=by
  have hcm:=List.mem_of_getElem? hc
  have r0:=D.role (r:=[]) hmk
  rw [List.append_nil] at r0
  have e1:evalE tab cf K (il text p mk t (.val (.str [c])) a6) true (.cmp .in_ (.idx (.loc 2) (.loc 3)) (.list (.cons (.lit (.int 6)) (.cons (.lit (.int 10)) .nil)))) s=.ok (.bool (([6,10]:List Nat).contains (ro mk))) (s++[.list (intsV [6,10])]):=in_list (S:=[6,10]) (idx_ok (loc_val rfl) (loc_val rfl) r0) (es2 lit_ok lit_ok) (by decide)
  have e2:evalE tab cf K (il text p mk t (.val (.str [c])) a6) true (.cmp .in_ (.idx (.loc 2) (.loc 5)) (.list (.cons (.lit (.int 7)) (.cons (.lit (.int 11)) (.cons (.lit (.int 13)) .nil))))) (s++[.list (intsV [6,10])])=.ok (.bool (([7,11,13]:List Nat).contains (ro c))) (s++[.list (intsV [6,10])]++[.list (intsV [7,11,13])]):=in_list (S:=[7,11,13]) (idx_ok (loc_val rfl) (loc_val rfl) (D.role hcm)) (es3 lit_ok lit_ok lit_ok) (by decide)
  cases h:([6,10]:List Nat).contains (ro mk) with
  | false=>exact ⟨_,and_f (e1.trans (by rw [h]))⟩
  | true=>exact ⟨[.list (intsV [6,10]),.list (intsV [7,11,13])],by rw [Bool.true_and,and_t (e1.trans (by rw [h])) e2,List.append_assoc]; rfl⟩
inductive InEnd (P:Par) (text T:List Nat) (s:List AO) (b:Nat) (tk:Tz) (r:RS):Prop
  | ok (t:List Nat) (q:Nat) (r0:List AO) (hq:q ≤ text.length) (hp:t.length+b < q) (h:r=.ret (.tup [.str t,.int (q:Int),.str []]) (s++r0)) (e:tk=dz P (text.drop q) .w (T++t)):InEnd P text T s b tk r
  | bad (m u:List Nat) (q:Int) (r0:List AO) (hm:m=noClose ∨ m=noEsc) (h:r=.ret (.tup [.str u,.int q,.str m]) (s++r0)) (e:tk=.bad m):InEnd P text T s b tk r
theorem InEnd.as {b:Nat} {tk tk2:Tz} {r r2:RS} (h:InEnd P text T s b tk r) (e1:tk2=tk) (e2:r2=r):InEnd P text T s b tk2 r2:=by
  rw [e1,e2]; exact h
structure Pr (P:Par) (ro:Nat→Nat) (c:Nat):Prop where
  es:P.es.contains c=([7,11,13]:List Nat).contains (ro c)
  eq:P.eq.contains c=([6,10]:List Nat).contains (ro c)
theorem back_q {m:Nat} (h:m ≠ 97):back m=.k m:=if_neg h
theorem kept_len {a:Bool} {b c c2:Nat}:(kept a c b c2++[c2]).length ≤ 2:=by unfold kept; split<;>simp
theorem esc_turn (D:Di RL OL ro ou text s) (hn:text.length ≤ 1000) (hc:text[p]?=some c) {r:List AO} {cf:Nat→List V→List AO→R V} (hl:t.length+2 ≤ lim) (h6:Fr a6):∃ r2,execs tab cf K b6_1 (il text p mk t (.val (.str [c])) a6) (s++r)=match text[p+1]? with
    | none=>.ret (.tup [.str [],.int (p:Int),.str noEsc]) (s++r2)
    | some c2=>.next (il text (p+2) mk (t++(kept true c mk c2++[c2])) (.val (.str [c])) (.val (.str [c2]))) (s++r2):=by
  have hp:=at_lt hc
  have s1:execS tab cf K (.asg 6 (.slice (.loc 0) (.bin .add (.loc 1) (.lit (.int 1))) (.bin .add (.loc 1) (.lit (.int 2))))) (il text p mk t (.val (.str [c])) a6) (s++r)=.next (il text p mk t (.val (.str [c])) (.val (.str ((text.take (p+2)).drop (p+1))))) (s++r) :=
    asg_ok (slice_ok (loc_val rfl) (bin_ok (r:=.ok (.int ((p+1:Nat):Int)) (s++r)) (loc_val rfl) lit_ok rfl) (bin_ok (r:=.ok (.int ((p+2:Nat):Int)) (s++r)) (loc_val rfl) lit_ok rfl) (sliceM hn (by omega) (by omega))) (by rcases h6 with e | ⟨_,e⟩<;>rw [e]<;>rfl)
  unfold b6_1
  rw [seq_next s1]
  cases h2:text[p+1]? with
  | none =>
    rw [cut_out h2]
    refine ⟨r,?_⟩
    rw [xcons,xif (b:=true) (s':=s++r) rfl,if_pos rfl]
    rfl
  | some c2 =>
    rw [cut1 h2]
    have em:evalE tab cf K (il text p mk t (.val (.str [c])) (.val (.str [c2]))) true (.cmp .in_ (.loc 6) (.list (.cons (.loc 5) (.cons (.loc 3) .nil)))) (s++r)=.ok (.bool ((c2 == c) || (c2 == mk))) (s++r++[.list [.str [c],.str [mk]]]):=by
      have e1:evalE tab cf K (il text p mk t (.val (.str [c])) (.val (.str [c2]))) false (.list (.cons (.loc 5) (.cons (.loc 3) .nil))) (s++r)=.ok (.obj (s++r).length) (s++r++[.list [.str [c],.str [mk]]]):=by
        have e0:evalEs tab cf K (il text p mk t (.val (.str [c])) (.val (.str [c2]))) (.cons (.loc 5) (.cons (.loc 3) .nil)) (s++r)=.ok [.str [c],.str [mk]] (s++r):=es2 (loc_val rfl) (loc_val rfl)
        show (evalEs tab cf K (il text p mk t (.val (.str [c])) (.val (.str [c2]))) (.cons (.loc 5) (.cons (.loc 3) .nil)) (s++r)).bind (fun vs s=>if vs.length ≤ lim then (R.ok (V.obj s.length) (s++[.list vs]):R V) else .fail)=_
        rw [e0]
        rfl
      refine cmp_ok (loc_val rfl) e1 ?_
      show retB _ (((s++r++[.list [.str [c],.str [mk]]])[(s++r).length]?.bind AO.list?).bind fun vs=>memV vs (.str [c2]))=_
      rw [end_at]
      show (R.ok (V.bool ((([c]:List Nat) == [c2]) || ((([mk]:List Nat) == [c2]) || false))) (s++r++[.list [.str [c],.str [mk]]]):R V)=_
      rw [one_eq,one_eq,Bool.or_false,BEq.comm (a:=c),BEq.comm (a:=mk)]
    have ek:kept true c mk c2=if ((c2 == c) || (c2 == mk))=true then [] else [c]:=by
      show (if (true&&(!(c2 == c)&&!(c2 == mk)))=true then [c] else [])=_
      cases (c2 == c)<;>cases (c2 == mk)<;>rfl
    have ev:evalE tab cf K (il text p mk t (.val (.str [c])) (.val (.str [c2]))) false (.ife (.cmp .in_ (.loc 6) (.list (.cons (.loc 5) (.cons (.loc 3) .nil)))) (.loc 6) (.bin .add (.loc 5) (.loc 6))) (s++r)=.ok (.str (kept true c mk c2++[c2])) (s++r++[.list [.str [c],.str [mk]]]):=by
      rw [ek]
      generalize ((c2 == c) || (c2 == mk))=b at em
      cases b with
      | true=>exact (ife_t em).trans (loc_val rfl)
      | false=>exact (ife_f em).trans (bin_ok (loc_val rfl) (loc_val rfl) rfl)
    have hk:t.length+(kept true c mk c2++[c2]).length ≤ lim:=Nat.le_trans (Nat.add_le_add_left kept_len _) hl
    refine ⟨r++[.list [.str [c],.str [mk]]],?_⟩
    rw [xcons,xif (b:=false) (s':=s++r) rfl,if_neg Bool.false_ne_true,xnil]
    show execs tab cf K _ (il text p mk t (.val (.str [c])) (.val (.str [c2]))) (s++r)=_
    rw [seq_next (aug_ok (x:=.str t) (z:=.str (t++(kept true c mk c2++[c2]))) rfl ev rfl (addStr hk) rfl),List.append_assoc]
    rfl
theorem in_loop (D:Di RL OL ro ou text s) (hn:text.length ≤ 1000) (hP:∀ c ∈ text,Pr P ro c) (hmk:mk ∈ text) (h97:mk ≠ 97) (hq:P.qs.contains mk=true) (b m:Nat):∀ (p f:Nat) (t:List Nat) (a5 a6:LV),text.length ≤ p+m→p ≤ text.length→m < f→t.length+b ≤ p→Fr a5→(a6=.un ∨ ∃ x,a6=.val (.str x))→InEnd P text T s b (dz P (text.drop p) (.k mk) (T++t)) (XI K d f (il text p mk t a5 a6) s):=by
  have out:∀ (p f:Nat) (t:List Nat) (a5 a6:LV),p=text.length→InEnd P text T s b (dz P (text.drop p) (.k mk) (T++t)) (XI K d (f+1) (il text p mk t a5 a6) s):=by
    intro p f t a5 a6 e
    have e1:WI K d (f+1) (il text p mk t a5 a6) s=.next (il text p mk t a5 a6) s:=while_f (in_out (by rw [e]; exact List.getElem?_eq_none_iff.mpr (Nat.le_refl _)))
    refine .bad noClose t ((p+1:Nat):Int) [] (.inl rfl) ?_ (by rw [e,List.drop_length]; rfl)
    have e2:evalE tab (callF tab K d) K (il text p mk t a5 a6) true (.cmp .eq (.loc 1) (.bi .len (.cons (.loc 0) .nil))) s=.ok (.bool true) s:=by
      show (R.ok (V.bool ((p:Int) == (text.length:Int))) s:R V)=_
      rw [e,beq_self_eq_true]
    show (WI K d (f+1) (il text p mk t a5 a6) s).seq _=_
    rw [e1,List.append_nil]
    exact seq_ret (ret_ok (tup_ok (es3 (loc_val rfl) (bin_ok (r:=.ok (.int ((p+1:Nat):Int)) s) (loc_val rfl) lit_ok rfl) ((ife_t e2).trans lit_ok)) (show 3 ≤ lim by decide)))
  induction m with
  | zero =>
    intro p f t a5 a6 h h0 hf ht f5 f6
    cases f with
    | zero=>exact absurd hf (Nat.lt_irrefl 0)
    | succ f=>exact out p f t a5 a6 (Nat.le_antisymm h0 h)
  | succ m ih =>
    intro p f t a5 a6 h h0 hf ht f5 f6
    cases f with
    | zero=>exact absurd hf (Nat.not_lt_zero _)
    | succ f =>
      cases hc:text[p]? with
      | none=>exact out p f t a5 a6 (Nat.le_antisymm h0 (List.getElem?_eq_none_iff.mp hc))
      | some c =>
        have hp:=at_lt hc
        have hf:=Nat.lt_of_succ_lt_succ hf
        have hcm:=List.mem_of_getElem? hc
        have hlim:t.length+2 ≤ lim:=Nat.le_trans (Nat.add_le_add_right (Nat.le_trans (Nat.le_trans (Nat.le_add_right _ b) ht) h0) 2) (Nat.le_trans (Nat.add_le_add_right hn 2) (by decide))
        rw [drop_at hc,dz_k]
        cases hm:c == mk with
        | true =>
          rw [if_pos rfl]
          have e1:WI K d (f+1) (il text p mk t a5 a6) s=.next (il text p mk t a5 a6) s:=while_f (by rw [in_at hc,hm]; rfl)
          refine .ok t (p+1) [] hp (Nat.lt_succ_of_le ht) ?_ rfl
          have e2:evalE tab (callF tab K d) K (il text p mk t a5 a6) true (.cmp .eq (.loc 1) (.bi .len (.cons (.loc 0) .nil))) s=.ok (.bool false) s:=by
            show (R.ok (V.bool ((p:Int) == (text.length:Int))) s:R V)=_
            rw [beq_eq_false_iff_ne.mpr (by omega)]
          show (WI K d (f+1) (il text p mk t a5 a6) s).seq _=_
          rw [e1,List.append_nil]
          exact seq_ret (ret_ok (tup_ok (es3 (loc_val rfl) (bin_ok (r:=.ok (.int ((p+1:Nat):Int)) s) (loc_val rfl) lit_ok rfl) ((ife_f e2).trans lit_ok)) (show 3 ≤ lim by decide)))
        | false =>
          rw [if_neg Bool.false_ne_true]
          obtain ⟨r,er⟩:=esc_eval (t:=t) (a6:=a6) (K:=K) (cf:=callF tab K d) D hc hmk
          rw [← (hP c hcm).es,← (hP mk hmk).eq,Bool.and_comm] at er
          have s1:execS tab (callF tab K d) K (.asg 5 (.idx (.loc 0) (.loc 1))) (il text p mk t a5 a6) s=.next (il text p mk t (.val (.str [c])) a6) s:=asg_ok (idx_ok (loc_val rfl) (loc_val rfl) (idx_str hc)) (by rcases f5 with e | ⟨_,e⟩<;>rw [e]<;>rfl)
          have eb:execs tab (callF tab K d) K b6_3 (il text p mk t a5 a6) s=if (P.es.contains c&&P.eq.contains mk)=true then execs tab (callF tab K d) K b6_1 (il text p mk t (.val (.str [c])) a6) (s++r) else execs tab (callF tab K d) K b6_2 (il text p mk t (.val (.str [c])) a6) (s++r):=by
            unfold b6_3
            rw [seq_next s1,blk rfl er]
          cases hx:(P.es.contains c&&P.eq.contains mk) with
          | true =>
            rw [if_pos rfl]
            rw [hx,if_pos rfl] at eb
            obtain ⟨r2,e2⟩:=esc_turn (mk:=mk) (cf:=callF tab K d) (K:=K) (r:=r) D hn hc hlim (f6.elim .inl fun ⟨x,e⟩=>.inr ⟨_,e⟩)
            cases h2:text[p+1]? with
            | none =>
              rw [h2] at e2
              exact .bad noEsc [] (p:Int) r2 (.inr rfl) (XI_ret hc hm (eb.trans e2)) (by rw [drop_out h2]; rfl)
            | some c2 =>
              rw [h2] at e2
              rw [drop_at h2,dz_x,back_q h97,hq]
              have:=ih (p+2) f (t++(kept true c mk c2++[c2])) (.val (.str [c])) (.val (.str [c2])) (by omega) (at_lt h2) hf (by rw [List.length_append]; have:=kept_len (a:=true) (b:=mk) (c:=c) (c2:=c2); omega) Fr.v (.inr ⟨_,rfl⟩)
              exact this.as (by rw [List.append_assoc,List.append_assoc]) (XI_next D hc hm (.inr ⟨_,rfl⟩) (eb.trans e2))
          | false =>
            rw [if_neg Bool.false_ne_true]
            rw [hx,if_neg Bool.false_ne_true] at eb
            have e2:execs tab (callF tab K d) K b6_2 (il text p mk t (.val (.str [c])) a6) (s++r)=.next (il text (p+1) mk (t++[c]) (.val (.str [c])) a6) (s++r):=by
              unfold b6_2
              rw [seq_next (aug_ok (x:=.str t) (y:=.str [c]) (z:=.str (t++[c])) rfl (loc_val rfl) rfl (addStr (Nat.le_of_succ_le hlim)) rfl)]
              rfl
            have:=ih (p+1) f (t++[c]) (.val (.str [c])) a6 (by omega) hp hf (by rw [List.length_append]; show t.length+1+b ≤ _; omega) Fr.v f6
            exact this.as (by rw [List.append_assoc]) (XI_next D hc hm f6 (eb.trans e2))
end
noncomputable abbrev tb1:List Nat:=[111,108,114,98,104,113,113,101,108,114,114,101,108,101,98,104]
noncomputable abbrev tb2:List Nat:=[111,108,46,46,46,113,113,101,108,113,113,101,113,101,46,46]
structure Sg (P:Par) (ro ou:Nat→Nat) (c:Nat):Prop where
  lt:ou c < 16
  stop:(tb2.getD (ou c) 0 == 46 || (tb2.getD (ou c) 0 == 111&&!P.sp))=(P.ws.contains c || (P.cm.contains c || (!P.qs.contains c&&(!P.es.contains c&&!inW P c))))
  e:(tb2.getD (ou c) 0 == 101)=(!P.ws.contains c&&(!P.cm.contains c&&(!P.qs.contains c&&P.es.contains c)))
  q:(tb2.getD (ou c) 0 == 113)=(!P.ws.contains c&&(!P.cm.contains c&&P.qs.contains c))
  h:(tb1.getD (ou c) 0 == 104)=(!P.ws.contains c&&P.cm.contains c)
  b:(tb1.getD (ou c) 0 == 98)=P.ws.contains c
  r:(tb1.getD (ou c) 0 == 114)=(!P.ws.contains c&&(!P.cm.contains c&&(!P.es.contains c&&(!P.wc.contains c&&P.pu.contains c))))
  o:(tb1.getD (ou c) 0 == 111)=(!P.ws.contains c&&(!P.cm.contains c&&(!P.es.contains c&&(!P.wc.contains c&&(!P.pu.contains c&&!P.qs.contains c)))))
  lo:([108,111]:List Nat).contains (tb1.getD (ou c) 0)=(!P.ws.contains c&&(!P.cm.contains c&&(!P.es.contains c&&(P.wc.contains c || (!P.pu.contains c&&!P.qs.contains c)))))
  run:([2,8,9,10,11]:List Nat).contains (ou c)=(!P.ws.contains c&&(!P.cm.contains c&&P.pu.contains c))
  pr:Pr P ro c
  dis:P.es.contains c=true→P.qs.contains c=false
  n97:c ≠ 97
theorem or_false {a b:Bool} (h:(a || b)=false):a=false∧b=false:=by cases a<;>cases b<;>first | exact ⟨rfl,rfl⟩ | exact nomatch h
theorem not_true {a:Bool} (h:(!a)=true):a=false:=by cases a<;>first | rfl | exact nomatch h
theorem and_true2 {a b:Bool} (h:(!a&&b)=true):a=false∧b=true:=by cases a<;>cases b<;>first | exact ⟨rfl,rfl⟩ | exact nomatch h
section
variable {s:List AO} {K d p q c mk:Nat} {text t T w:List Nat} {l l2:List LV} {v:V} {a6 a7 a8 a9:LV} {RL OL:List (List Nat × V)} {ro ou:Nat→Nat} {P:Par} {sp:Bool}
inductive InOk (P:Par) (text T:List Nat) (s:List AO) (p:Nat) (tk:Tz) (r:R V):Prop
  | ok (t:List Nat) (q:Nat) (hq:q ≤ text.length) (hp:t.length+p < q) (h:r=.ok (.tup [.str t,.int (q:Int),.str []]) s) (e:tk=dz P (text.drop q) .w (T++t)):InOk P text T s p tk r
  | bad (m u:List Nat) (q:Int) (hm:m=noClose ∨ m=noEsc) (h:r=.ok (.tup [.str u,.int q,.str m]) s) (e:tk=.bad m):InOk P text T s p tk r
theorem in_eval (D:Di RL OL ro ou text s) (hn:text.length ≤ 1000) (hK:text.length < K) (hS:∀ c ∈ text,Sg P ro ou c) (hc:text[p]?=some mk) (hq:P.qs.contains mk=true):InOk P text T s (p+1) (dz P (text.drop (p+1)) (.k mk) T) (callF tab K (d+1) 6 [.str text,.int (p:Int),.obj 6] s):=by
  have hp:=at_lt hc
  have hm:=List.mem_of_getElem? hc
  have e1:callF tab K (d+1) 6 [.str text,.int (p:Int),.obj 6] s=endCall s.length (execs tab (callF tab K d) K b6_4 [.val (.str text),.val (.int (p:Int)),.val (.obj 6),.un,.un,.un,.un,.un] (s++[])):=by rfl
  have s1:execS tab (callF tab K d) K (.asg 3 (.idx (.loc 0) (.loc 1))) [.val (.str text),.val (.int (p:Int)),.val (.obj 6),.un,.un,.un,.un,.un] s=.next [.val (.str text),.val (.int (p:Int)),.val (.obj 6),.val (.str [mk]),.un,.un,.un,.un] s:=asg_ok (idx_ok (loc_val rfl) (loc_val rfl) (idx_str hc)) rfl
  have e2:execs tab (callF tab K d) K b6_4 [.val (.str text),.val (.int (p:Int)),.val (.obj 6),.un,.un,.un,.un,.un] s=XI K d K (il text (p+1) mk [] .un .un) s:=by
    unfold b6_4
    rw [seq_next s1]
    rfl
  have h:=in_loop (s:=s) (K:=K) (d:=d) (T:=T) D hn (fun c m=>(hS c m).pr) hm (hS mk hm).n97 hq (p+1) text.length (p+1) K [] .un .un (Nat.le_add_left _ _) hp hK (Nat.le_of_eq (Nat.zero_add _)) Fr.u (.inl rfl)
  rw [List.append_nil] at h
  rw [e1,List.append_nil,e2]
  rcases h with ⟨t,q,r0,a,b,c,e⟩ | ⟨m,u,q,r0,a,b,c⟩
  · rw [c]; exact .ok t q a b (leave_tup D.lw rfl) e
  · rw [b]; exact .bad m u q a (leave_tup D.lw rfl) c
noncomputable def wl (text:List Nat) (p:Nat) (sp:Bool) (t:List Nat) (a6 a7 a8 a9:LV):List LV:=[.val (.str text),.val (.int (p:Int)),.val (.obj 6),.val (.obj 7),.val (.bool sp),.val (.str t),a6,a7,a8,a9,.un,.un]
theorem tb_at {tb:List Nat} {cf:Nat→List V→List AO→R V} {e:Ex} {n:Nat} {b:Bool} (he:evalE tab cf K l false e s=.ok (.int (n:Int)) s) (hn:n < tb.length):evalE tab cf K l false (.idx (.lit (.str tb)) e) s=.ok (.str [tb.getD n 0]) s :=
  idx_ok lit_ok he (idx_str (by rw [List.getD_eq_getElem?_getD,List.getElem?_eq_getElem hn]; rfl))
theorem out_at (D:Di RL OL ro ou text s) (hc:text[p]?=some c) {cf:Nat→List V→List AO→R V} (h3:l[3]?=some (.val (.obj 7))) (h0:l[0]?=some (.val (.str text))) (h1:l[1]?=some (.val (.int (p:Int)))):evalE tab cf K l false (.idx (.loc 3) (.idx (.loc 0) (.loc 1))) s=.ok (.int (ou c:Int)) s:=by
  have:=D.outs (r:=[]) (List.mem_of_getElem? hc)
  rw [List.append_nil] at this
  exact idx_ok (loc_val h3) (idx_ok (loc_val h0) (loc_val h1) (idx_str hc)) this
theorem unp_ok {T:Tab} {cf:Nat→List V→List AO→R V} {is:List Nat} {e:Ex} {vs:List V} {s1:List AO} {rs:RS} (hd:T.hd=false) (h:evalE T cf K l false e s=.ok (.tup vs) s1) (hl:vs.length=is.length) (h2:storeAll is vs l s1=rs):execS T cf K (.unp is e) l s=rs:=by
  have e0:execS T cf K (.unp is e) l s=RS.nohd T.hd ((evalE T cf K l false e s).st l fun v s=>RS.opt v.tup? fun vs=>if (vs.length == is.length)=true then storeAll is vs l s else .fail):=rfl
  rw [e0,hd,h]
  show (if (vs.length == is.length)=true then storeAll is vs l s1 else .fail)=_
  rw [if_pos (beq_iff_eq.mpr hl),h2]
noncomputable abbrev sv (x:List Nat):LV:=.val (.str x)
inductive Part (P:Par) (text:List Nat) (s:List AO) (p:Nat) (sp:Bool) (t dd:List Nat) (tk:Tz) (r:RS):Prop
  | go (w:List Nat) (q:Nat) (hq:q ≤ text.length) (hw:w.length+p ≤ q) (hp:p < q) (h:r=.next (wl text p sp t (sv dd) (sv w) (.val (.int (q:Int))) (sv [])) s) (e:tk=dz P (text.drop q) .w (t++w)):Part P text s p sp t dd tk r
  | bad (m w:List Nat) (q:Int) (hm:m=noClose ∨ m=noEsc) (h:r=.next (wl text p sp t (sv dd) (sv w) (.val (.int q)) (sv m)) s) (e:tk=.bad m):Part P text s p sp t dd tk r
theorem deed_is {cf:Nat→List V→List AO→R V} {x:Nat} (y:Nat):evalE tab cf K (wl text p sp t (sv [x]) a7 a8 a9) true (.cmp .eq (.loc 6) (.lit (.str [y]))) s=.ok (.bool (x == y)) s:=cmp_ok (loc_val rfl) lit_ok (by show (R.ok (V.bool (([x]:List Nat) == [y])) s:R V)=_; rw [one_eq])
theorem part_esc (hn:text.length ≤ 1000) (hc:text[p]?=some c) (hS:Sg P ro ou c) (h1:P.ws.contains c=false) (h2:P.cm.contains c=false) (h3:P.qs.contains c=false) (h4:P.es.contains c=true) (hq97:P.qs.contains 97=false) {dd:List Nat}:Part P text s p sp t dd (dz P (text.drop p) .w t) (execs tab (callF tab K d) K b3_2 (wl text p sp t (sv dd) (sv [c]) (.val (.int ((p+1:Nat):Int))) (sv [])) s):=by
  have hp:=at_lt hc
  have er:dz P (text.drop p) .w t=dz P (text.drop (p+1)) (.x c 97) t:=by
    rw [drop_at hc,dz_w,if_neg (ff h1),if_neg (ff h2),if_neg (ff h3),if_pos h4]
  have s1:execS tab (callF tab K d) K (.asg 7 (.slice (.loc 0) (.bin .add (.loc 1) (.lit (.int 1))) (.bin .add (.loc 1) (.lit (.int 2))))) (wl text p sp t (sv dd) (sv [c]) (.val (.int ((p+1:Nat):Int))) (sv [])) s=.next (wl text p sp t (sv dd) (sv ((text.take (p+2)).drop (p+1))) (.val (.int ((p+1:Nat):Int))) (sv [])) s :=
    asg_ok (slice_ok (loc_val rfl) (bin_ok (r:=.ok (.int ((p+1:Nat):Int)) s) (loc_val rfl) lit_ok rfl) (bin_ok (r:=.ok (.int ((p+2:Nat):Int)) s) (loc_val rfl) lit_ok rfl) (sliceM hn (by omega) (by omega))) rfl
  have s2:execS tab (callF tab K d) K (.asg 8 (.bin .add (.loc 1) (.lit (.int 2)))) (wl text p sp t (sv dd) (sv ((text.take (p+2)).drop (p+1))) (.val (.int ((p+1:Nat):Int))) (sv [])) s=.next (wl text p sp t (sv dd) (sv ((text.take (p+2)).drop (p+1))) (.val (.int ((p+2:Nat):Int))) (sv [])) s :=
    asg_ok (bin_ok (r:=.ok (.int ((p+2:Nat):Int)) s) (loc_val rfl) lit_ok rfl) rfl
  have e3:execs tab (callF tab K d) K b3_2 (wl text p sp t (sv dd) (sv [c]) (.val (.int ((p+1:Nat):Int))) (sv [])) s=execS tab (callF tab K d) K (.asg 9 (.ife (.cmp .eq (.loc 7) (.lit (.str []))) (.lit (.str [78,111,32,101,115,99,97,112,101,100,32,99,104,97,114,97,99,116,101,114])) (.lit (.str [])))) (wl text p sp t (sv dd) (sv ((text.take (p+2)).drop (p+1))) (.val (.int ((p+2:Nat):Int))) (sv [])) s:=by
    unfold b3_2
    rw [seq_next s1,seq_next s2,xone]
  rw [e3]
  cases h2:text[p+1]? with
  | none =>
    rw [cut_out h2]
    exact .bad noEsc [] _ (.inr rfl) (asg_ok ((ife_t (cmp_ok (loc_val rfl) lit_ok rfl)).trans lit_ok) rfl) (by rw [er,drop_out h2]; rfl)
  | some c2 =>
    rw [cut1 h2]
    refine .go [c2] (p+2) (at_lt h2) (by show 1+p ≤ p+2; omega) (by omega) (asg_ok ((ife_f (cmp_ok (loc_val rfl) lit_ok rfl)).trans lit_ok) rfl) ?_
    rw [er,drop_at h2,dz_x,hq97]
    show dz P (text.drop (p+2)) .w (t++[]++[c2])=_
    rw [List.append_nil]
theorem part_q (D:Di RL OL ro ou text s) (hn:text.length ≤ 1000) (hK:text.length < K) (hA:∀ c ∈ text,Sg P ro ou c) (hc:text[p]?=some c) (h1:P.ws.contains c=false) (h2:P.cm.contains c=false) (h3:P.qs.contains c=true) {x:Nat} (h113:x=113):Part P text s p sp t [x] (dz P (text.drop p) .w t) (execs tab (callF tab K (d+1)) K b3_4 (wl text p sp t (sv [x]) (sv [c]) (.val (.int ((p+1:Nat):Int))) (sv [])) s):=by
  have er:dz P (text.drop p) .w t=dz P (text.drop (p+1)) (.k c) t:=by
    rw [drop_at hc,dz_w,if_neg (ff h1),if_neg (ff h2),if_pos h3]
  have hx:=in_eval (s:=s) (K:=K) (d:=d) (T:=t) D hn hK hA hc h3
  have un:∀ (u:List Nat) (y:Int) (z:List Nat),callF tab K (d+1) 6 [.str text,.int (p:Int),.obj 6] s=.ok (.tup [.str u,.int y,.str z]) s→execs tab (callF tab K (d+1)) K b3_4 (wl text p sp t (sv [x]) (sv [c]) (.val (.int ((p+1:Nat):Int))) (sv [])) s=.next (wl text p sp t (sv [x]) (sv u) (.val (.int y)) (sv z)) s:=by
    intro u y z h
    rw [blk (B:=b3_4) rfl (deed_is 113),h113,if_pos (show ((113:Nat) == 113)=true from rfl)]
    exact xone.trans (unp_ok rfl (callF_ok (es3 (loc_val rfl) (loc_val rfl) (loc_val rfl)) h) rfl rfl)
  rcases hx with ⟨w,q,a,b,h,e⟩ | ⟨m,u,q,a,h,e⟩
  · exact .go w q a (by omega) (by omega) (un _ _ _ h) (er.trans e)
  · exact .bad m u q a (un _ _ _ h) (er.trans e)
noncomputable abbrev ltW:Ex:=.cmp .lt (.loc 1) (.bi .len (.cons (.loc 0) .nil))
noncomputable abbrev WW (K d:Nat):Nat→List LV→List AO→RS:=whileTurns (fun l s=>evalE tab (callF tab K d) K l true ltW s) (fun l s=>execs tab (callF tab K d) K b3_6 l s)
noncomputable abbrev retW:Sts:=.cons (.ret (.tup (.cons (.loc 5) (.cons (.loc 1) (.cons (.lit (.str [])) .nil))))) .nil
noncomputable abbrev XW (K d f:Nat) (l:List LV) (s:List AO):RS:=(WW K d f l s).seq (execs tab (callF tab K d) K retW)
theorem ltW_eval {cf:Nat→List V→List AO→R V}:evalE tab cf K (wl text p sp t a6 a7 a8 a9) true ltW s=.ok (.bool (decide ((p:Int) < (text.length:Int)))) s:=rfl
theorem XW_next {f:Nat} (hp:p < text.length) (eb:execs tab (callF tab K d) K b3_6 (wl text p sp t a6 a7 a8 a9) s=.next l2 s):XW K d (f+1) (wl text p sp t a6 a7 a8 a9) s=XW K d f l2 s:=by
  have e1:WW K d (f+1) (wl text p sp t a6 a7 a8 a9) s=loopRes (WW K d f) s.length true (execs tab (callF tab K d) K b3_6 (wl text p sp t a6 a7 a8 a9) s):=while_t (by rw [ltW_eval,decide_eq_true (Int.ofNat_lt.mpr hp)])
  show (WW K d (f+1) (wl text p sp t a6 a7 a8 a9) s).seq _=_
  rw [e1,eb,loop_next,show trim s.length l2 s=(l2,s) from if_pos (beq_self_eq_true s.length)]
theorem XW_ret {f:Nat} {x:V} (hp:p < text.length) (eb:execs tab (callF tab K d) K b3_6 (wl text p sp t a6 a7 a8 a9) s=.ret x s):XW K d (f+1) (wl text p sp t a6 a7 a8 a9) s=.ret x s:=by
  have e1:WW K d (f+1) (wl text p sp t a6 a7 a8 a9) s=loopRes (WW K d f) s.length true (execs tab (callF tab K d) K b3_6 (wl text p sp t a6 a7 a8 a9) s):=while_t (by rw [ltW_eval,decide_eq_true (Int.ofNat_lt.mpr hp)])
  show (WW K d (f+1) (wl text p sp t a6 a7 a8 a9) s).seq _=_
  rw [e1,eb]
  rfl
noncomputable def Stops (P:Par) (text:List Nat) (q:Nat):Prop:=∀ c,text[q]?=some c→(P.ws.contains c || (P.cm.contains c || (!P.qs.contains c&&(!P.es.contains c&&!inW P c))))=true
inductive WdEnd (P:Par) (text:List Nat) (p:Nat) (tk:Tz) (X:List Nat→Int→List Nat→Prop):Prop
  | ok (t:List Nat) (q:Nat) (hq:q ≤ text.length) (hp:p ≤ q) (h:X t (q:Int) []) (e:tk=dz P (text.drop q) .w t) (hs:Stops P text q):WdEnd P text p tk X
  | bad (m:List Nat) (q:Int) (hm:m=noClose ∨ m=noEsc) (h:X [] q m) (e:tk=.bad m):WdEnd P text p tk X
noncomputable abbrev isR (s:List AO) (r:RS) (t:List Nat) (q:Int) (m:List Nat):Prop:=r=.ret (.tup [.str t,.int q,.str m]) s
theorem WdEnd.as {p2:Nat} {tk tk2:Tz} {X Y:List Nat→Int→List Nat→Prop} (h:WdEnd P text p tk X) (e1:tk2=tk) (e2:∀ a b c,X a b c→Y a b c) (hp:p2 ≤ p):WdEnd P text p2 tk2 Y:=by
  rw [e1]
  rcases h with ⟨t,q,a,b,c,d,e⟩ | ⟨m,q,a,b,c⟩
  · exact .ok t q a (Nat.le_trans hp b) (e2 _ _ _ c) d e
  · exact .bad m q a (e2 _ _ _ b) c
noncomputable abbrev rest3:Sts:=.cons (.if_ (.cmp .ne (.loc 9) (.lit (.str []))) b3_5 .nil) (.cons (.aug 5 .add (.loc 7)) (.cons (.asg 1 (.loc 8)) (.nil)))
noncomputable abbrev stX:Ex:=.boolop false (.cons (.cmp .eq (.loc 6) (.lit (.str [46]))) (.cons (.boolop true (.cons (.cmp .eq (.loc 6) (.lit (.str [111]))) (.cons (.not_ (.loc 4)) .nil))) .nil))
theorem stop_eval {cf:Nat→List V→List AO→R V} {x:Nat}:evalE tab cf K (wl text p sp t (sv [x]) a7 a8 a9) true stX s=.ok (.bool (x == 46 || (x == 111&&!sp))) s:=by
  refine or_ok (deed_is 46) ?_
  have e:=deed_is (cf:=cf) (K:=K) (text:=text) (p:=p) (sp:=sp) (t:=t) (a7:=a7) (a8:=a8) (a9:=a9) (s:=s) (x:=x) 111
  cases h:x == 111 with
  | false=>exact and_f (e.trans (by rw [h]))
  | true=>exact and_t (e.trans (by rw [h])) rfl
theorem f9cases {P:LV→Prop} {a:LV} (h:Fr a) (h1:P .un) (h2:∀ v,P (.val v)):P a:=by
  rcases h with e | ⟨v,e⟩<;>rw [e]
  · exact h1
  · exact h2 v
theorem word_turn (D:Di RL OL ro ou text s) (hn:text.length ≤ 1000) (hK:text.length < K) (hA:∀ c ∈ text,Sg P ro ou c) (hsp:P.sp=sp) (hq97:P.qs.contains 97=false) (hc:text[p]?=some c) (h6:Fr a6) (h7:Fr a7) (h8:Fr a8) (h9:Fr a9) :
    (execs tab (callF tab K (d+1)) K b3_6 (wl text p sp t a6 a7 a8 a9) s=.ret (.tup [.str t,.int (p:Int),.str []]) s∧(P.ws.contains c || (P.cm.contains c || (!P.qs.contains c&&(!P.es.contains c&&!inW P c))))=true) ∨
    ∃ r,Part P text s p sp t [tb2.getD (ou c) 0] (dz P (text.drop p) .w t) r∧execs tab (callF tab K (d+1)) K b3_6 (wl text p sp t a6 a7 a8 a9) s=r.seq (execs tab (callF tab K (d+1)) K rest3):=by
  have hS:=hA c (List.mem_of_getElem? hc)
  have s1:execS tab (callF tab K (d+1)) K (.asg 6 (.idx (.lit (.str [111,108,46,46,46,113,113,101,108,113,113,101,113,101,46,46])) (.idx (.loc 3) (.idx (.loc 0) (.loc 1))))) (wl text p sp t a6 a7 a8 a9) s=.next (wl text p sp t (sv [tb2.getD (ou c) 0]) a7 a8 a9) s :=
    asg_ok (tb_at (tb:=tb2) (b:=true) (out_at D hc rfl rfl rfl) hS.lt) (by rcases h6 with e | ⟨_,e⟩<;>rw [e]<;>rfl)
  have hst:=hS.stop
  rw [hsp] at hst
  generalize hx:tb2.getD (ou c) 0=x at s1 hst
  have es:=stop_eval (cf:=callF tab K (d+1)) (K:=K) (text:=text) (p:=p) (sp:=sp) (t:=t) (a7:=a7) (a8:=a8) (a9:=a9) (s:=s) (x:=x)
  rw [hst] at es
  unfold b3_6
  rw [seq_next s1,xcons,xif es]
  cases hb:(P.ws.contains c || (P.cm.contains c || (!P.qs.contains c&&(!P.es.contains c&&!inW P c)))) with
  | true=>exact .inl ⟨by rw [if_pos rfl]; rfl,rfl⟩
  | false =>
    obtain ⟨b1,hb⟩:=or_false hb
    obtain ⟨b2,b3⟩:=or_false hb
    refine .inr ⟨execS tab (callF tab K (d+1)) K (.if_ (.cmp .eq (.loc 6) (.lit (.str [101]))) b3_2 b3_4) (wl text p sp t (sv [x]) (sv [c]) (.val (.int ((p+1:Nat):Int))) (sv [])) s,?_,?_⟩
    · have he:=hS.e
      have hq:=hS.q
      rw [hx,b1,b2] at he hq
      have he:(x == 101)=(!P.qs.contains c&&P.es.contains c):=he
      have hq:(x == 113)=P.qs.contains c:=hq
      rw [xif (deed_is 101),he]
      cases hqs:P.qs.contains c with
      | true =>
        rw [hqs] at hq
        rw [if_neg (show ¬ (!true&&P.es.contains c)=true from Bool.false_ne_true)]
        exact part_q D hn hK hA hc b1 b2 hqs (beq_iff_eq.mp hq)
      | false =>
        cases hes:P.es.contains c with
        | true =>
          rw [if_pos (show (!false&&true)=true from rfl)]
          exact part_esc hn hc hS b1 b2 hqs hes hq97
        | false =>
          rw [if_neg (show ¬ (!false&&false)=true from Bool.false_ne_true),blk (B:=b3_4) rfl (deed_is 113),hq,hqs,if_neg Bool.false_ne_true,xnil]
          rw [hqs,hes] at b3
          have hw:inW P c=true:=by
            cases hw:inW P c with
            | true=>rfl
            | false=>rw [hw] at b3; exact nomatch b3
          exact .go [c] (p+1) (at_lt hc) (Nat.le_of_eq (Nat.add_comm 1 p)) (Nat.lt_succ_self p) rfl (by rw [drop_at hc,dz_w,if_neg (ff b1),if_neg (ff b2),if_neg (ff hqs),if_neg (ff hes),if_pos hw])
    · rw [if_neg Bool.false_ne_true,xnil]
      show execs tab (callF tab K (d+1)) K _ (wl text p sp t (sv [x]) a7 a8 a9) s=_
      have s2:execS tab (callF tab K (d+1)) K (.asg 7 (.idx (.loc 0) (.loc 1))) (wl text p sp t (sv [x]) a7 a8 a9) s=.next (wl text p sp t (sv [x]) (sv [c]) a8 a9) s:=asg_ok (idx_ok (loc_val rfl) (loc_val rfl) (idx_str hc)) (by rcases h7 with e | ⟨_,e⟩<;>rw [e]<;>rfl)
      have s3:execS tab (callF tab K (d+1)) K (.asg 8 (.bin .add (.loc 1) (.lit (.int 1)))) (wl text p sp t (sv [x]) (sv [c]) a8 a9) s=.next (wl text p sp t (sv [x]) (sv [c]) (.val (.int ((p+1:Nat):Int))) a9) s:=asg_ok (bin_ok (r:=.ok (.int ((p+1:Nat):Int)) s) (loc_val rfl) lit_ok rfl) (by rcases h8 with e | ⟨_,e⟩<;>rw [e]<;>rfl)
      have s4:execS tab (callF tab K (d+1)) K (.asg 9 (.lit (.str []))) (wl text p sp t (sv [x]) (sv [c]) (.val (.int ((p+1:Nat):Int))) a9) s=.next (wl text p sp t (sv [x]) (sv [c]) (.val (.int ((p+1:Nat):Int))) (sv [])) s:=asg_ok lit_ok (by rcases h9 with e | ⟨_,e⟩<;>rw [e]<;>rfl)
      rw [seq_next s2,seq_next s3,seq_next s4,xcons]
theorem word_loop (D:Di RL OL ro ou text s) (hn:text.length ≤ 1000) (hK:text.length < K) (hA:∀ c ∈ text,Sg P ro ou c) (hsp:P.sp=sp) (hq97:P.qs.contains 97=false) (m:Nat):∀ (p f:Nat) (t:List Nat) (a6 a7 a8 a9:LV),text.length ≤ p+m→p ≤ text.length→m < f→t.length ≤ p→Fr a6→Fr a7→Fr a8→Fr a9 →
    WdEnd P text p (dz P (text.drop p) .w t) (isR s (XW K (d+1) f (wl text p sp t a6 a7 a8 a9) s)):=by
  have out:∀ (p f:Nat) (t:List Nat) (a6 a7 a8 a9:LV),p=text.length→WdEnd P text p (dz P (text.drop p) .w t) (isR s (XW K (d+1) (f+1) (wl text p sp t a6 a7 a8 a9) s)):=by
    intro p f t a6 a7 a8 a9 e
    have e1:WW K (d+1) (f+1) (wl text p sp t a6 a7 a8 a9) s=.next (wl text p sp t a6 a7 a8 a9) s:=while_f (by rw [ltW_eval,e,decide_eq_false (Int.lt_irrefl _)])
    refine .ok t p (Nat.le_of_eq e) (Nat.le_refl p) ?_ rfl fun c h=>absurd (at_lt h) (by rw [e]; exact Nat.lt_irrefl _)
    show (WW K (d+1) (f+1) (wl text p sp t a6 a7 a8 a9) s).seq _=_
    rw [e1]
    rfl
  induction m with
  | zero =>
    intro p f t a6 a7 a8 a9 h h0 hf ht h6 h7 h8 h9
    cases f with
    | zero=>exact absurd hf (Nat.lt_irrefl 0)
    | succ f=>exact out p f t a6 a7 a8 a9 (Nat.le_antisymm h0 h)
  | succ m ih =>
    intro p f t a6 a7 a8 a9 h h0 hf ht h6 h7 h8 h9
    cases f with
    | zero=>exact absurd hf (Nat.not_lt_zero _)
    | succ f =>
      cases hc:text[p]? with
      | none=>exact out p f t a6 a7 a8 a9 (Nat.le_antisymm h0 (List.getElem?_eq_none_iff.mp hc))
      | some c =>
        have hp:=at_lt hc
        rcases word_turn (t:=t) (d:=d) D hn hK hA hsp hq97 hc h6 h7 h8 h9 with ⟨e1,e2⟩ | ⟨r,hr,eb⟩
        · exact .ok t p h0 (Nat.le_refl p) (XW_ret hp e1) rfl fun c' h'=>by rw [← Option.some.inj (hc.symm.trans h')]; exact e2
        · rcases hr with ⟨w,q,hq,hw,hpq,h1,e⟩ | ⟨m',w,q,hm,h1,e⟩
          · have ha:t.length+w.length ≤ lim:=Nat.le_trans (show t.length+w.length ≤ q by omega) (Nat.le_trans hq (Nat.le_trans hn (by decide)))
            have e2:execs tab (callF tab K (d+1)) K b3_6 (wl text p sp t a6 a7 a8 a9) s=.next (wl text q sp (t++w) (sv [tb2.getD (ou c) 0]) (sv w) (.val (.int (q:Int))) (sv [])) s:=by
              rw [eb,h1]
              show execs tab (callF tab K (d+1)) K rest3 (wl text p sp t (sv [tb2.getD (ou c) 0]) (sv w) (.val (.int (q:Int))) (sv [])) s=_
              rw [xcons,xif (b:=false) (s':=s) rfl,if_neg Bool.false_ne_true,xnil]
              show execs tab (callF tab K (d+1)) K _ (wl text p sp t (sv [tb2.getD (ou c) 0]) (sv w) (.val (.int (q:Int))) (sv [])) s=_
              rw [seq_next (aug_ok (x:=.str t) (y:=.str w) (z:=.str (t++w)) rfl (loc_val rfl) rfl (addStr ha) rfl)]
              rfl
            exact (ih q f (t++w) _ _ _ _ (by omega) hq (Nat.lt_of_succ_lt_succ hf) (by rw [List.length_append]; omega) Fr.v Fr.v Fr.v Fr.v).as e (fun a b c hx=>(XW_next hp e2).trans hx) (Nat.le_of_lt hpq)
          · refine .bad m' (p:Int) hm (XW_ret hp ?_) e
            rw [eb,h1]
            rcases hm with e | e<;>rw [e]<;>rfl
theorem word_eval (D:Di RL OL ro ou text s) (hn:text.length ≤ 1000) (hK:text.length < K) (hA:∀ c ∈ text,Sg P ro ou c) (hsp:P.sp=sp) (hq97:P.qs.contains 97=false) (hc:text[p]?=some c) (h1:P.ws.contains c=false) (h2:P.cm.contains c=false) (h3:(!P.es.contains c&&(!P.wc.contains c&&P.pu.contains c))=false) (h4:(!P.es.contains c&&(!P.wc.contains c&&(!P.pu.contains c&&!P.qs.contains c)))=true→sp=true) :
    WdEnd P text p (z0 P (text.drop p)) (fun t q m=>callF tab K (d+2) 3 [.str text,.int (p:Int),.obj 6,.obj 7,.bool sp] s=.ok (.tup [.str t,.int q,.str m]) s):=by
  have hp:=at_lt hc
  have hS:=hA c (List.mem_of_getElem? hc)
  have e1:callF tab K (d+2) 3 [.str text,.int (p:Int),.obj 6,.obj 7,.bool sp] s=endCall s.length (execs tab (callF tab K (d+1)) K b3_7 [.val (.str text),.val (.int (p:Int)),.val (.obj 6),.val (.obj 7),.val (.bool sp),.un,.un,.un,.un,.un,.un,.un] (s++[])):=by rfl
  have elo:evalE tab (callF tab K (d+1)) K (wl text p sp [] .un .un .un .un) true (.cmp .in_ (.idx (.lit (.str [111,108,114,98,104,113,113,101,108,114,114,101,108,101,98,104])) (.idx (.loc 3) (.idx (.loc 0) (.loc 1)))) (.lit (.str [108,111]))) s=.ok (.bool (([108,111]:List Nat).contains (tb1.getD (ou c) 0))) s:=cmp_ok (tb_at (tb:=tb1) (b:=true) (out_at D hc rfl rfl rfl) hS.lt) lit_ok rfl
  rw [hS.lo,h1,h2] at elo
  have e2:execs tab (callF tab K (d+1)) K b3_7 [.val (.str text),.val (.int (p:Int)),.val (.obj 6),.val (.obj 7),.val (.bool sp),.un,.un,.un,.un,.un,.un,.un] s=if (!P.es.contains c&&(P.wc.contains c || (!P.pu.contains c&&!P.qs.contains c)))=true then XW K (d+1) K (wl text (p+1) sp [c] .un .un .un .un) s else XW K (d+1) K (wl text p sp [] .un .un .un .un) s:=by
    have ea:execs tab (callF tab K (d+1)) K b3_7 [.val (.str text),.val (.int (p:Int)),.val (.obj 6),.val (.obj 7),.val (.bool sp),.un,.un,.un,.un,.un,.un,.un] s=execs tab (callF tab K (d+1)) K (.cons (.if_ (.cmp .in_ (.idx (.lit (.str [111,108,114,98,104,113,113,101,108,114,114,101,108,101,98,104])) (.idx (.loc 3) (.idx (.loc 0) (.loc 1)))) (.lit (.str [108,111]))) b3_0 .nil) (.cons (.while_ ltW b3_6) retW)) (wl text p sp [] .un .un .un .un) s:=rfl
    have es1:execs tab (callF tab K (d+1)) K b3_0 (wl text p sp [] .un .un .un .un) s=.next (wl text (p+1) sp [c] .un .un .un .un) s:=by
      unfold b3_0
      rw [seq_next (asg_ok (i:=5) (l:=wl text p sp [] .un .un .un .un) (v:=.str [c]) (s1:=s) (rs:=.next (wl text p sp [c] .un .un .un .un) s) (idx_ok (loc_val rfl) (loc_val rfl) (idx_str hc)) rfl)]
      rfl
    have elo:evalE tab (callF tab K (d+1)) K (wl text p sp [] .un .un .un .un) true (.cmp .in_ (.idx (.lit (.str [111,108,114,98,104,113,113,101,108,114,114,101,108,101,98,104])) (.idx (.loc 3) (.idx (.loc 0) (.loc 1)))) (.lit (.str [108,111]))) s=.ok (.bool (!P.es.contains c&&(P.wc.contains c || (!P.pu.contains c&&!P.qs.contains c)))) s:=elo
    rw [ea,xcons,xif elo]
    cases (!P.es.contains c&&(P.wc.contains c || (!P.pu.contains c&&!P.qs.contains c))) with
    | true=>rw [if_pos rfl,if_pos rfl,es1]; rfl
    | false=>rw [if_neg Bool.false_ne_true,if_neg Bool.false_ne_true]; rfl
  have fin:∀ {X:RS} {p2:Nat} {tk:Tz},execs tab (callF tab K (d+1)) K b3_7 [.val (.str text),.val (.int (p:Int)),.val (.obj 6),.val (.obj 7),.val (.bool sp),.un,.un,.un,.un,.un,.un,.un] s=X→p ≤ p2→z0 P (text.drop p)=tk→WdEnd P text p2 tk (isR s X)→WdEnd P text p (z0 P (text.drop p)) (fun t q m=>callF tab K (d+2) 3 [.str text,.int (p:Int),.obj 6,.obj 7,.bool sp] s=.ok (.tup [.str t,.int q,.str m]) s):=by
    intro X p2 tk eX hpp etk h
    refine h.as etk (fun t q m hx=>?_) hpp
    have hx:X=.ret (.tup [.str t,.int q,.str m]) s:=hx
    rw [e1,List.append_nil,eX,hx]
    exact leave_same
  cases hx:(!P.es.contains c&&(P.wc.contains c || (!P.pu.contains c&&!P.qs.contains c))) with
  | true =>
    rw [hx,if_pos rfl] at e2
    refine fin e2 (Nat.le_succ p) ?_ (word_loop (s:=s) (K:=K) (d:=d) D hn hK hA hsp hq97 text.length (p+1) K [c] .un .un .un .un (by omega) hp hK (by show 1 ≤ p+1; omega) Fr.u Fr.u Fr.u Fr.u)
    obtain ⟨he,hx⟩:=and_true2 hx
    rw [drop_at hc,z0_c,if_neg (ff h1),if_neg (ff h2),if_neg (ff he)]
    cases hw:P.wc.contains c with
    | true=>rw [if_pos rfl]
    | false =>
      rw [hw] at hx h4
      rw [he] at h4
      obtain ⟨hpu,hqs⟩:=and_true2 (show (!P.pu.contains c&&!P.qs.contains c)=true from hx)
      have hqs:=not_true hqs
      rw [hpu,hqs] at h4
      rw [if_neg Bool.false_ne_true,if_neg (ff hpu),if_neg (ff hqs),if_pos (hsp.trans (h4 rfl))]
  | false =>
    rw [hx,if_neg Bool.false_ne_true] at e2
    refine fin e2 (Nat.le_refl p) ?_ (word_loop (s:=s) (K:=K) (d:=d) D hn hK hA hsp hq97 text.length p K [] .un .un .un .un (Nat.le_add_left _ _) (Nat.le_of_lt hp) hK (Nat.zero_le _) Fr.u Fr.u Fr.u Fr.u)
    rw [drop_at hc,z0_c,dz_w,if_neg (ff h1),if_neg (ff h1),if_neg (ff h2),if_neg (ff h2)]
    cases he:P.es.contains c with
    | true=>rw [if_pos rfl,if_neg (ff (hS.dis he)),if_pos rfl]
    | false =>
      rw [he] at hx h3
      obtain ⟨hw,hx⟩:=or_false (show (P.wc.contains c || (!P.pu.contains c&&!P.qs.contains c))=false from hx)
      rw [hw] at h3
      have hpu:P.pu.contains c=false:=h3
      rw [hpu] at hx
      have hqs:P.qs.contains c=true:=by
        cases hq:P.qs.contains c with
        | true=>rfl
        | false=>rw [hq] at hx; exact nomatch hx
      rw [if_neg Bool.false_ne_true,if_neg (ff hw),if_neg (ff hpu),if_pos hqs,if_pos hqs]
end
section
variable {pre:List AO} {K d p q c:Nat} {text w:List Nat} {v:V} {a6 a7 a8 a9:LV} {vs:List V} {RL OL:List (List Nat × V)} {ro ou:Nat→Nat} {P:Par} {sp:Bool}
structure Hr (RL OL:List (List Nat × V)) (ro ou:Nat→Nat) (text:List Nat) (pre:List AO):Prop where
  len:pre.length=26
  d:Di RL OL ro ou text pre
noncomputable abbrev hv (pre:List AO) (vs:List V):List AO:=pre++[.list vs]
theorem Hr.n (h:Hr RL OL ro ou text pre):(hv pre vs).length=27:=by rw [List.length_append,h.len]; rfl
theorem Hr.di (h:Hr RL OL ro ou text pre) (hl:∀ n,lows n vs=true):Di RL OL ro ou text (hv pre vs) where
  r:=by rw [List.getElem?_append_left (by rw [h.len]; decide)]; exact h.d.r
  o:=by rw [List.getElem?_append_left (by rw [h.len]; decide)]; exact h.d.o
  lr:=h.d.lr
  lo:=h.d.lo
  low n hn:=by
    rw [aoLows_app,h.d.low n hn]
    show (true&&(lows n vs&&true))=true
    rw [hl]; rfl
  len:=by rw [h.n]; decide
theorem Hr.at26 (h:Hr RL OL ro ou text pre) {r:List AO}:(hv pre vs++r)[26]?=some (.list vs):=by
  rw [List.getElem?_append_left (by rw [h.n]; decide),← h.len]; exact end_at
theorem Hr.app (h:Hr RL OL ro ou text pre) (hl:vs.length+1 ≤ lim) {r:List AO}:bmOp (hv pre vs++r) .append (.obj 26) [v]=.ok .none (hv pre (vs++[v])++r):=by
  show R.opt (hv pre vs++r)[26]? (fun o=>appOp (hv pre vs++r) 26 v o)=_
  rw [h.at26]
  show (if vs.length+1 ≤ lim then (R.ok V.none ((hv pre vs++r).set 26 (.list (vs++[v]))):R V) else .fail)=_
  rw [if_pos hl]
  refine congrArg (R.ok V.none) ?_
  rw [List.set_append_left _ _ (by rw [h.n]; decide),← h.len,List.set_append_right _ _ (Nat.le_refl _),Nat.sub_self]
  rfl
theorem Hr.rcv (h:Hr RL OL ro ou text pre) {r:List AO}:recvK (hv pre vs++r) .append (.obj 26)=some 0:=by
  show ((hv pre vs++r)[26]?).bind AO.kindK=some 0
  rw [h.at26]; rfl
noncomputable def r5 (text:List Nat) (p:Nat) (sp:Bool) (a6 a7 a8 a9:LV):List LV:=[.val (.str text),.val (.obj 6),.val (.obj 7),.val (.bool sp),.val (.obj 26),.val (.int (p:Int)),a6,a7,a8,a9,.un,.un]
theorem tell (h:Hr RL OL ro ou text pre) (hl:vs.length+1 ≤ lim) {x:Ex} {r:List AO} {cf:Nat→List V→List AO→R V} (hx:evalE tab cf K (r5 text p sp a6 a7 a8 a9) false x (hv pre vs++r)=.ok v (hv pre vs++r)) :
    execS tab cf K (.expr (.bm .append (.loc 4) (.cons x .nil))) (r5 text p sp a6 a7 a8 a9) (hv pre vs++r)=.next (r5 text p sp a6 a7 a8 a9) (hv pre (vs++[v])++r) :=
  expr_ok (bm_ok (k:=.append) (x:=.obj 26) (i:=0) rfl (loc_val rfl) h.rcv (es1 hx) h.rcv (h.app hl)) rfl
noncomputable def Fs (a:LV):Prop:=a=.un ∨ ∃ x,a=.val (.str x)
theorem Fs.s {x:List Nat}:Fs (.val (.str x)):=.inr ⟨x,rfl⟩
theorem Fs.fr {a:LV} (h:Fs a):Fr a:=h.elim .inl fun ⟨x,e⟩=>.inr ⟨_,e⟩
inductive Tr (P:Par) (text:List Nat) (sp:Bool) (pre:List AO) (vs:List V) (p:Nat) (r:RS):Prop
  | skip (q:Nat) (x:List Nat) (a8 a9:LV) (hq:q ≤ text.length) (hp:p < q) (h:r=.next (r5 text p sp (sv x) (.val (.int (q:Int))) a8 a9) (hv pre vs)) (e:z0 P (text.drop p)=z0 P (text.drop q)) (f8:Fs a8) (f9:Fs a9):Tr P text sp pre vs p r
  | tok (t u:List Nat) (q:Nat) (x:List Nat) (a8 a9:LV) (r0:List AO) (hq:q ≤ text.length) (hp:p < q) (h:r=.next (r5 text p sp (sv x) (.val (.int (q:Int))) a8 a9) (hv pre (vs++[.str t])++r0)) (e:z0 P (text.drop p)=.ok t u) (e2:z0 P u=z0 P (text.drop q)) (f8:Fs a8) (f9:Fs a9):Tr P text sp pre vs p r
  | done (e:V) (h:r=.ret (.tup [.obj 26,e]) (hv pre vs)) (he:∀ k,foundL P k (text.drop p)=List.replicate k e):Tr P text sp pre vs p r
theorem set7 (f:Fr a7) {s:List AO} {x:V}:setLoc (r5 text p sp a6 a7 a8 a9) s 7 x=.next (r5 text p sp a6 (.val x) a8 a9) s:=by rcases f with e | ⟨_,e⟩<;>rw [e]<;>rfl
theorem tr_cm (hn:text.length ≤ 1000) (hc:text[p]?=some c) (h1:P.ws.contains c=false) (h2:P.cm.contains c=true) {x:List Nat} (f8:Fs a8) (f9:Fs a9):Tr P text sp pre vs p (execs tab (callF tab K d) K b5_1 (r5 text p sp (sv x) (.val (.int ((p+1:Nat):Int))) a8 a9) (hv pre vs)):=by
  have hp:=at_lt hc
  have er:z0 P (text.drop p)=z0 P (afterLine (text.drop (p+1))):=by
    rw [drop_at hc,z0_c,if_neg (ff h1),if_pos h2]
  have ef:bmOp (hv pre vs) .find (.str text) [.str [10],.int ((p+1:Nat):Int)]=.ok (.int (idxC 10 (text.drop (p+1)) (p+1))) (hv pre vs):=by
    rw [find_eq,if_pos,Int.toNat_natCast]
    · unfold findC
      rw [List.take_length]
    · rw [decide_eq_true (Int.natCast_nonneg _),decide_eq_true (show ((p+1:Nat):Int) < 2 ^ 60 by omega)]
      rfl
  have s1:execS tab (callF tab K d) K (.asg 7 (.bin .add (.bm .find (.loc 0) (.cons (.lit (.str [10])) (.cons (.loc 7) .nil))) (.lit (.int 1)))) (r5 text p sp (sv x) (.val (.int ((p+1:Nat):Int))) a8 a9) (hv pre vs)=.next (r5 text p sp (sv x) (.val (.int (idxC 10 (text.drop (p+1)) (p+1)+1))) a8 a9) (hv pre vs) :=
    asg_ok (bin_ok (bm_ok (i:=2) rfl (loc_val rfl) rfl (es2 lit_ok (loc_val rfl)) rfl ef) lit_ok rfl) (set7 Fr.v)
  have e0:execs tab (callF tab K d) K b5_1 (r5 text p sp (sv x) (.val (.int ((p+1:Nat):Int))) a8 a9) (hv pre vs)=execS tab (callF tab K d) K (.if_ (.cmp .eq (.loc 7) (.lit (.int 0))) b5_0 .nil) (r5 text p sp (sv x) (.val (.int (idxC 10 (text.drop (p+1)) (p+1)+1))) a8 a9) (hv pre vs):=by
    unfold b5_1
    rw [seq_next s1,xone]
  rw [e0]
  rcases idx_nl (text:=text) (text.length - (p+1)) (p+1) (Nat.add_sub_cancel' hp) with ⟨e1,e2⟩ | ⟨q,a,b,e1,e2⟩
  · rw [e1,xif (b:=true) (s':=hv pre vs) rfl,if_pos rfl]
    exact .done .none rfl (found_eof (by rw [er,e2]; rfl))
  · have e4:((q:Int)+1 == 0)=false:=beq_eq_false_iff_ne.mpr (by omega)
    rw [e1,xif (b:=false) (s':=hv pre vs) (cmp_ok (loc_val rfl) lit_ok (by show (R.ok (V.bool ((q:Int)+1 == 0)) (hv pre vs):R V)=_; rw [e4])),if_neg Bool.false_ne_true]
    exact .skip (q+1) x a8 a9 b (Nat.lt_succ_of_le (Nat.le_of_succ_le a)) rfl (by rw [er,e2]) f8 f9
noncomputable abbrev rnX:Ex:=.boolop true (.cons (.cmp .lt (.loc 7) (.bi .len (.cons (.loc 0) .nil))) (.cons (.cmp .in_ (.idx (.loc 2) (.idx (.loc 0) (.loc 7))) (.list (.cons (.lit (.int 2)) (.cons (.lit (.int 8)) (.cons (.lit (.int 9)) (.cons (.lit (.int 10)) (.cons (.lit (.int 11)) .nil))))))) .nil))
theorem rn_eval {s r:List AO} (D:Di RL OL ro ou text s) {cf:Nat→List V→List AO→R V} (hc:text[q]?=some c):evalE tab cf K (r5 text p sp a6 (.val (.int (q:Int))) a8 a9) true rnX (s++r)=.ok (.bool (([2,8,9,10,11]:List Nat).contains (ou c))) (s++(r++[AO.list (intsV [2,8,9,10,11])])):=by
  have e1:evalE tab cf K (r5 text p sp a6 (.val (.int (q:Int))) a8 a9) true (.cmp .lt (.loc 7) (.bi .len (.cons (.loc 0) .nil))) (s++r)=.ok (.bool true) (s++r):=by
    show (R.ok (V.bool (decide ((q:Int) < (text.length:Int)))) (s++r):R V)=_
    rw [decide_eq_true (Int.ofNat_lt.mpr (at_lt hc))]
  rw [← List.append_assoc]
  exact and_t e1 (in_list (S:=[2,8,9,10,11]) (idx_ok (loc_val rfl) (idx_ok (loc_val rfl) (loc_val rfl) (idx_str hc)) (D.outs (List.mem_of_getElem? hc))) rfl (by decide))
theorem rn_out {cf:Nat→List V→List AO→R V} {s:List AO} (hc:text[q]?=none):evalE tab cf K (r5 text p sp a6 (.val (.int (q:Int))) a8 a9) true rnX s=.ok (.bool false) s:=by
  refine and_f ?_
  show (R.ok (V.bool (decide ((q:Int) < (text.length:Int)))) s:R V)=_
  rw [decide_eq_false (fun x=>Nat.not_le_of_lt (Int.ofNat_lt.mp x) (List.getElem?_eq_none_iff.mp hc))]
noncomputable abbrev WN (K d:Nat):Nat→List LV→List AO→RS:=whileTurns (fun l s=>evalE tab (callF tab K d) K l true rnX s) (fun l s=>execs tab (callF tab K d) K b5_2 l s)
theorem run_loop {s:List AO} (D:Di RL OL ro ou text s) (hA:∀ c ∈ text,Sg P ro ou c) (m:Nat):∀ (e f:Nat) (r:List AO),text.length ≤ e+m→e ≤ text.length→p < e→m < f→∃ q r',e ≤ q∧q ≤ text.length∧WN K d f (r5 text p sp a6 (.val (.int (e:Int))) a8 a9) (s++r)=.next (r5 text p sp a6 (.val (.int (q:Int))) a8 a9) (s++r') ∧
    dz P (text.drop e) .u ((text.take e).drop p)=dz P (text.drop q) .u ((text.take q).drop p)∧∀ c,text[q]?=some c→(!P.ws.contains c&&(!P.cm.contains c&&P.pu.contains c))=false:=by
  induction m with
  | zero =>
    intro e f r h h0 hp hf
    cases f with
    | zero=>exact absurd hf (Nat.lt_irrefl 0)
    | succ f =>
      have hn:text[e]?=none:=List.getElem?_eq_none_iff.mpr h
      exact ⟨e,r,Nat.le_refl e,h0,while_f (rn_out hn),rfl,fun c x=>nomatch hn.symm.trans x⟩
  | succ m ih =>
    intro e f r h h0 hp hf
    cases f with
    | zero=>exact absurd hf (Nat.not_lt_zero _)
    | succ f =>
      cases hc:text[e]? with
      | none=>exact ⟨e,r,Nat.le_refl e,h0,while_f (rn_out hc),rfl,fun c x=>nomatch hc.symm.trans x⟩
      | some c =>
        have he:=rn_eval (cf:=callF tab K d) (K:=K) (p:=p) (sp:=sp) (a6:=a6) (a8:=a8) (a9:=a9) (r:=r) D hc
        rw [(hA c (List.mem_of_getElem? hc)).run] at he
        cases hb:(!P.ws.contains c&&(!P.cm.contains c&&P.pu.contains c)) with
        | false =>
          rw [hb] at he
          exact ⟨e,_,Nat.le_refl e,h0,while_f he,rfl,fun c' x=>by rw [← Option.some.inj (hc.symm.trans x)]; exact hb⟩
        | true =>
          rw [hb] at he
          obtain ⟨q,r',q1,q2,q3,q4,q5⟩:=ih (e+1) f (r++[AO.list (intsV [2,8,9,10,11])]) (by omega) (at_lt hc) (Nat.lt_succ_of_lt hp) (Nat.lt_of_succ_lt_succ hf)
          refine ⟨q,r',Nat.le_of_succ_le q1,q2,?_,?_,q5⟩
          · have e1:WN K d (f+1) (r5 text p sp a6 (.val (.int (e:Int))) a8 a9) (s++r)=loopRes (WN K d f) (s++(r++[AO.list (intsV [2,8,9,10,11])])).length true (execs tab (callF tab K d) K b5_2 (r5 text p sp a6 (.val (.int (e:Int))) a8 a9) (s++(r++[AO.list (intsV [2,8,9,10,11])]))):=while_t he
            have e2:execs tab (callF tab K d) K b5_2 (r5 text p sp a6 (.val (.int (e:Int))) a8 a9) (s++(r++[AO.list (intsV [2,8,9,10,11])]))=.next (r5 text p sp a6 (.val (.int ((e+1:Nat):Int))) a8 a9) (s++(r++[AO.list (intsV [2,8,9,10,11])])):=by rfl
            rw [e1,e2,loop_next,show trim (s++(r++[AO.list (intsV [2,8,9,10,11])])).length (r5 text p sp a6 (.val (.int ((e+1:Nat):Int))) a8 a9) (s++(r++[AO.list (intsV [2,8,9,10,11])]))=(_,s++(r++[AO.list (intsV [2,8,9,10,11])])) from if_pos (beq_self_eq_true _)]
            exact q3
          · obtain ⟨hw,hb⟩:=and_true2 hb
            obtain ⟨hcm,hpu⟩:=and_true2 hb
            have et:(text.take (e+1)).drop p=(text.take e).drop p++[c]:=by
              rw [List.take_add_one,hc,List.drop_append_of_le_length (by rw [List.length_take]; omega)]
              rfl
            rw [← q4,drop_at hc,dz_u,if_neg (ff hw),if_neg (ff hcm),if_pos hpu,et]
theorem tr_run (h:Hr RL OL ro ou text pre) (hvl:∀ n,lows n vs=true) (hl:vs.length+1 ≤ lim) (hn:text.length ≤ 1000) (hK:text.length < K) (hA:∀ c ∈ text,Sg P ro ou c) (hc:text[p]?=some c) (h1:P.ws.contains c=false) (h2:P.cm.contains c=false) (h3:P.es.contains c=false) (h4:P.wc.contains c=false) (h5:P.pu.contains c=true) {x:List Nat} (f8:Fs a8) (f9:Fs a9) :
    Tr P text sp pre vs p (execs tab (callF tab K d) K b5_3 (r5 text p sp (sv x) (.val (.int ((p+1:Nat):Int))) a8 a9) (hv pre vs)):=by
  have hp:=at_lt hc
  obtain ⟨q,r',q1,q2,q3,q4,q5⟩:=run_loop (K:=K) (d:=d) (p:=p) (sp:=sp) (a6:=sv x) (a8:=a8) (a9:=a9) (h.di hvl) hA text.length (p+1) K [] (Nat.le_add_left _ _) hp (Nat.lt_succ_self p) hK
  rw [List.append_nil] at q3
  have er:z0 P (text.drop p)=dz P (text.drop (p+1)) .u ((text.take (p+1)).drop p):=by
    rw [drop_at hc,z0_c,if_neg (ff h1),if_neg (ff h2),if_neg (ff h3),if_neg (ff h4),if_pos h5,cut1 hc]
  obtain ⟨u,g1,g3⟩:=fin_at (P:=P) (text:=text) (q:=q) (md:=.u) (t:=(text.take q).drop p) rfl (fun c' hc'=>by
    rw [drop_at hc',dz_u]
    have h5:=q5 c' hc'
    cases hw:P.ws.contains c' with
    | true=>rw [if_pos rfl,if_pos rfl]
    | false =>
      rw [if_neg Bool.false_ne_true,if_neg Bool.false_ne_true]
      cases h35:P.cm.contains c' with
      | true=>rw [if_pos rfl,if_pos rfl]
      | false =>
        rw [hw,h35] at h5
        have h5:P.pu.contains c'=false:=h5
        rw [if_neg Bool.false_ne_true,if_neg Bool.false_ne_true,if_neg (ff h5)])
  have s1:execS tab (callF tab K d) K (.while_ rnX b5_2) (r5 text p sp (sv x) (.val (.int ((p+1:Nat):Int))) a8 a9) (hv pre vs)=.next (r5 text p sp (sv x) (.val (.int (q:Int))) a8 a9) (hv pre vs++r'):=q3
  refine .tok _ u q x a8 a9 r' q2 (Nat.lt_of_succ_le q1) ?_ (er.trans (q4.trans g1)) g3 f8 f9
  unfold b5_3
  rw [seq_next s1,xone]
  exact tell h hl (slice_ok (loc_val rfl) (loc_val rfl) (loc_val rfl) (sliceM hn (by omega) (by omega)))
theorem tr_word (h:Hr RL OL ro ou text pre) (hvl:∀ n,lows n vs=true) (hl:vs.length+1 ≤ lim) (hn:text.length ≤ 1000) (hK:text.length < K) (hA:∀ c ∈ text,Sg P ro ou c) (hsp:P.sp=sp) (hq97:P.qs.contains 97=false) (hc:text[p]?=some c) (h1:P.ws.contains c=false) (h2:P.cm.contains c=false) (h3:(!P.es.contains c&&(!P.wc.contains c&&P.pu.contains c))=false) (h4:(!P.es.contains c&&(!P.wc.contains c&&(!P.pu.contains c&&!P.qs.contains c)))=true→sp=true) {x:List Nat} (f7:Fr a7) (f8:Fs a8) (f9:Fs a9) :
    Tr P text sp pre vs p (execs tab (callF tab K (d+2)) K b5_6 (r5 text p sp (sv x) a7 a8 a9) (hv pre vs)):=by
  have hp:=at_lt hc
  have un:∀ (t:List Nat) (y:Int) (z:List Nat),callF tab K (d+2) 3 [.str text,.int (p:Int),.obj 6,.obj 7,.bool sp] (hv pre vs)=.ok (.tup [.str t,.int y,.str z]) (hv pre vs)→execS tab (callF tab K (d+2)) K (.unp [8,7,9] (.callF 3 (.cons (.loc 0) (.cons (.loc 5) (.cons (.loc 1) (.cons (.loc 2) (.cons (.loc 3) .nil))))))) (r5 text p sp (sv x) a7 a8 a9) (hv pre vs)=.next (r5 text p sp (sv x) (.val (.int y)) (sv t) (sv z)) (hv pre vs):=by
    intro t y z hx
    refine unp_ok rfl (callF_ok (es_cons (loc_val rfl) (es_cons (loc_val rfl) (es3 (loc_val rfl) (loc_val rfl) (loc_val rfl)))) hx) rfl ?_
    exact f9cases (P:=fun a7=>storeAll [8,7,9] [.str t,.int y,.str z] (r5 text p sp (sv x) a7 a8 a9) (hv pre vs)=_) f7 (f9cases (P:=fun a8=>storeAll [8,7,9] [.str t,.int y,.str z] (r5 text p sp (sv x) .un a8 a9) (hv pre vs)=_) f8.fr (f9cases (P:=fun a9=>storeAll [8,7,9] [.str t,.int y,.str z] (r5 text p sp (sv x) .un .un a9) (hv pre vs)=_) f9.fr rfl fun _=>rfl) fun v=>f9cases (P:=fun a9=>storeAll [8,7,9] [.str t,.int y,.str z] (r5 text p sp (sv x) .un (.val v) a9) (hv pre vs)=_) f9.fr rfl fun _=>rfl)
      fun v7=>f9cases (P:=fun a8=>storeAll [8,7,9] [.str t,.int y,.str z] (r5 text p sp (sv x) (.val v7) a8 a9) (hv pre vs)=_) f8.fr (f9cases (P:=fun a9=>storeAll [8,7,9] [.str t,.int y,.str z] (r5 text p sp (sv x) (.val v7) .un a9) (hv pre vs)=_) f9.fr rfl fun _=>rfl) fun v=>f9cases (P:=fun a9=>storeAll [8,7,9] [.str t,.int y,.str z] (r5 text p sp (sv x) (.val v7) (.val v) a9) (hv pre vs)=_) f9.fr rfl fun _=>rfl
  rcases word_eval (s:=hv pre vs) (K:=K) (d:=d) (p:=p) (h.di hvl) hn hK hA hsp hq97 hc h1 h2 h3 h4 with ⟨t,q,a,b,hx,e,hst⟩ | ⟨m,q,hm,hx,e⟩
  · obtain ⟨u,g1,g3⟩:=fin_at (P:=P) (text:=text) (q:=q) (md:=.w) (t:=t) rfl (fun c' hc'=>by
      have hs:=hst c' hc'
      rw [drop_at hc',dz_w]
      cases hw:P.ws.contains c' with
      | true=>rw [if_pos rfl,if_pos rfl]
      | false =>
        rw [if_neg Bool.false_ne_true,if_neg Bool.false_ne_true]
        cases h35:P.cm.contains c' with
        | true=>rw [if_pos rfl,if_pos rfl]
        | false =>
          rw [hw,h35] at hs
          obtain ⟨h2,hs⟩:=and_true2 (show (!P.qs.contains c'&&(!P.es.contains c'&&!inW P c'))=true from hs)
          obtain ⟨h3,hs⟩:=and_true2 hs
          rw [if_neg Bool.false_ne_true,if_neg Bool.false_ne_true,if_neg (ff h2),if_neg (ff h3),if_neg (ff (not_true hs))])
    have hpq:p < q:=by
      refine Nat.lt_of_le_of_ne b fun e=>?_
      rw [← e] at hst
      have hs:=hst c hc
      rw [h1,h2] at hs
      obtain ⟨k1,hs⟩:=and_true2 (show (!P.qs.contains c&&(!P.es.contains c&&!inW P c))=true from hs)
      obtain ⟨k2,hs⟩:=and_true2 hs
      obtain ⟨k3,k4⟩:=or_false (not_true hs)
      obtain ⟨_,k5⟩:=or_false k4
      rw [k2,k3] at h3 h4
      have k6:P.pu.contains c=false:=h3
      rw [k6,k1] at h4
      rw [k6,hsp,h4 rfl] at k5
      exact nomatch k5
    refine .tok t u q x (sv t) (sv []) [] a hpq ?_ (e.trans g1) g3 Fs.s Fs.s
    unfold b5_6
    rw [seq_next (un _ _ _ hx),xcons,xif (b:=false) (s':=hv pre vs) rfl,if_neg Bool.false_ne_true,xnil]
    have:=tell (K:=K) (p:=p) (sp:=sp) (a6:=sv x) (a7:=.val (.int (q:Int))) (a8:=sv t) (a9:=sv []) (cf:=callF tab K (d+2)) (x:=.loc 8) (v:=.str t) (r:=[]) h hl (loc_val rfl)
    rw [List.append_nil] at this
    exact xone.trans this
  · refine .done (refE m) ?_ (found_bad e)
    unfold b5_6
    rw [seq_next (un _ _ _ hx)]
    rcases hm with e | e<;>rw [e]<;>rfl
end
section
variable {pre:List AO} {K d p q c:Nat} {text w:List Nat} {v:V} {a6 a7 a8 a9:LV} {vs:List V} {RL OL:List (List Nat × V)} {ro ou:Nat→Nat} {P:Par} {sp:Bool} {s:List AO}
theorem deed5 {cf:Nat→List V→List AO→R V} {x:Nat} (y:Nat):evalE tab cf K (r5 text p sp (sv [x]) a7 a8 a9) true (.cmp .eq (.loc 6) (.lit (.str [y]))) s=.ok (.bool (x == y)) s:=cmp_ok (loc_val rfl) lit_ok (by show (R.ok (V.bool (([x]:List Nat) == [y])) s:R V)=_; rw [one_eq])
theorem deed5n {cf:Nat→List V→List AO→R V} {x:Nat} (y:Nat):evalE tab cf K (r5 text p sp (sv [x]) a7 a8 a9) true (.cmp .ne (.loc 6) (.lit (.str [y]))) s=.ok (.bool (!(x == y))) s:=cmp_ok (loc_val rfl) lit_ok (by show (R.ok (V.bool (!(([x]:List Nat) == [y]))) s:R V)=_; rw [one_eq])
theorem read_turn (h:Hr RL OL ro ou text pre) (hvl:∀ n,lows n vs=true) (hl:vs.length+1 ≤ lim) (hn:text.length ≤ 1000) (hK:text.length < K) (hA:∀ c ∈ text,Sg P ro ou c) (hsp:P.sp=sp) (hq97:P.qs.contains 97=false) (hc:text[p]?=some c) (f6:Fr a6) (f7:Fr a7) (f8:Fs a8) (f9:Fs a9) :
    ∃ r,Tr P text sp pre vs p r∧execs tab (callF tab K (d+2)) K b5_10 (r5 text p sp a6 a7 a8 a9) (hv pre vs)=r.seq (execs tab (callF tab K (d+2)) K (.cons (.asg 5 (.loc 7)) .nil)):=by
  have hp:=at_lt hc
  have hm:=List.mem_of_getElem? hc
  have hS:=hA c hm
  have ho:idxOp (hv pre vs) (.obj 7) (.str [c])=.ok (.int (ou c:Int)) (hv pre vs):=by
    have:=(h.di hvl).outs (r:=[]) hm
    rw [List.append_nil] at this
    exact this
  have s1:execS tab (callF tab K (d+2)) K (.asg 6 (.idx (.lit (.str [111,108,114,98,104,113,113,101,108,114,114,101,108,101,98,104])) (.idx (.loc 2) (.idx (.loc 0) (.loc 5))))) (r5 text p sp a6 a7 a8 a9) (hv pre vs)=.next (r5 text p sp (sv [tb1.getD (ou c) 0]) a7 a8 a9) (hv pre vs) :=
    asg_ok (tb_at (tb:=tb1) (b:=true) (idx_ok (loc_val rfl) (idx_ok (loc_val rfl) (loc_val rfl) (idx_str hc)) ho) hS.lt) (by rcases f6 with e | ⟨_,e⟩<;>rw [e]<;>rfl)
  have e1:=hS.h
  have e2:=hS.r
  have e3:=hS.o
  have e4:=hS.b
  generalize tb1.getD (ou c) 0=x at s1 e1 e2 e3 e4
  have s2:execS tab (callF tab K (d+2)) K (.asg 7 (.bin .add (.loc 5) (.lit (.int 1)))) (r5 text p sp (sv [x]) a7 a8 a9) (hv pre vs)=.next (r5 text p sp (sv [x]) (.val (.int ((p+1:Nat):Int))) a8 a9) (hv pre vs):=asg_ok (bin_ok (r:=.ok (.int ((p+1:Nat):Int)) (hv pre vs)) (loc_val rfl) lit_ok rfl) (set7 f7)
  refine ⟨execS tab (callF tab K (d+2)) K (.if_ (.cmp .eq (.loc 6) (.lit (.str [104]))) b5_1 b5_9) (r5 text p sp (sv [x]) (.val (.int ((p+1:Nat):Int))) a8 a9) (hv pre vs),?_,by unfold b5_10; rw [seq_next s1,seq_next s2,xcons]⟩
  rw [xif (deed5 104),e1]
  cases hw:P.ws.contains c with
  | true =>
    rw [hw] at e2 e3 e4
    have e2:(x == 114)=false:=e2
    have e3:(x == 111)=false:=e3
    rw [if_neg (show ¬ (!true&&P.cm.contains c)=true from Bool.false_ne_true),blk (B:=b5_9) rfl (deed5 114),e2,if_neg Bool.false_ne_true,blk (B:=b5_8) rfl (and_f ((deed5 111).trans (by rw [e3]))),if_neg Bool.false_ne_true,blk (B:=b5_7) rfl (deed5n 98),e4,if_neg (show ¬ (!true)=true from Bool.false_ne_true),xnil]
    exact .skip (p+1) _ _ _ hp (Nat.lt_succ_self p) rfl (by rw [drop_at hc,z0_c,if_pos hw]) f8 f9
  | false =>
    rw [hw] at e2 e3 e4
    cases hcm:P.cm.contains c with
    | true =>
      rw [if_pos (show (!false&&true)=true from rfl)]
      exact tr_cm hn hc hw hcm f8 f9
    | false =>
      rw [hcm] at e2 e3
      have e2:(x == 114)=(!P.es.contains c&&(!P.wc.contains c&&P.pu.contains c)):=e2
      have e3:(x == 111)=(!P.es.contains c&&(!P.wc.contains c&&(!P.pu.contains c&&!P.qs.contains c))):=e3
      rw [if_neg (show ¬ (!false&&false)=true from Bool.false_ne_true),blk (B:=b5_9) rfl (deed5 114),e2]
      cases hr:(!P.es.contains c&&(!P.wc.contains c&&P.pu.contains c)) with
      | true =>
        obtain ⟨k1,k2⟩:=and_true2 hr
        obtain ⟨k2,k3⟩:=and_true2 k2
        rw [if_pos rfl]
        exact tr_run h hvl hl hn hK hA hc hw hcm k1 k2 k3 f8 f9
      | false =>
        have ec:evalE tab (callF tab K (d+2)) K (r5 text p sp (sv [x]) (.val (.int ((p+1:Nat):Int))) a8 a9) true (.boolop true (.cons (.cmp .eq (.loc 6) (.lit (.str [111]))) (.cons (.not_ (.loc 3)) .nil))) (hv pre vs)=.ok (.bool ((x == 111)&&!sp)) (hv pre vs):=by
          cases h1:x == 111 with
          | false=>exact and_f ((deed5 111).trans (by rw [h1]))
          | true=>exact and_t ((deed5 111).trans (by rw [h1])) rfl
        rw [if_neg Bool.false_ne_true,blk (B:=b5_8) rfl ec,e3]
        cases hx:(!P.es.contains c&&(!P.wc.contains c&&(!P.pu.contains c&&!P.qs.contains c)))&&!sp with
        | true =>
          obtain ⟨hx,k0⟩:=Bool.and_eq_true_iff.mp hx
          obtain ⟨k1,hx⟩:=and_true2 hx
          obtain ⟨k2,hx⟩:=and_true2 hx
          obtain ⟨k3,k4⟩:=and_true2 hx
          have k4:=not_true k4
          have k0:P.sp=false:=hsp.trans (not_true k0)
          rw [if_pos rfl]
          refine .tok [c] (text.drop (p+1)) (p+1) [x] a8 a9 [] hp (Nat.lt_succ_self p) (xone.trans ?_) (by rw [drop_at hc,z0_c,if_neg (ff hw),if_neg (ff hcm),if_neg (ff k1),if_neg (ff k2),if_neg (ff k3),if_neg (ff k4),if_neg (ff k0)]) rfl f8 f9
          have:=tell (K:=K) (p:=p) (sp:=sp) (a6:=sv [x]) (a7:=.val (.int ((p+1:Nat):Int))) (a8:=a8) (a9:=a9) (cf:=callF tab K (d+2)) (x:=.idx (.loc 0) (.loc 5)) (v:=.str [c]) (r:=[]) h hl (idx_ok (loc_val rfl) (loc_val rfl) (idx_str hc))
          rw [List.append_nil,List.append_nil] at this
          rw [List.append_nil]
          exact this
        | false =>
          rw [if_neg Bool.false_ne_true,blk (B:=b5_7) rfl (deed5n 98),e4,if_pos (show (!false)=true from rfl)]
          refine tr_word h hvl hl hn hK hA hsp hq97 hc hw hcm hr (fun k=>?_) Fr.v f8 f9
          rw [k] at hx
          cases sp with
          | true=>rfl
          | false=>exact nomatch hx
noncomputable abbrev lt5:Ex:=.cmp .lt (.loc 5) (.bi .len (.cons (.loc 0) .nil))
noncomputable abbrev W5 (K d:Nat):Nat→List LV→List AO→RS:=whileTurns (fun l s=>evalE tab (callF tab K d) K l true lt5 s) (fun l s=>execs tab (callF tab K d) K b5_10 l s)
noncomputable abbrev ret5:Sts:=.cons (.ret (.tup (.cons (.loc 4) (.cons (.lit (.none)) .nil)))) .nil
noncomputable abbrev X5 (K d f:Nat) (l:List LV) (s:List AO):RS:=(W5 K d f l s).seq (execs tab (callF tab K d) K ret5)
theorem lt5_eval {cf:Nat→List V→List AO→R V}:evalE tab cf K (r5 text p sp a6 a7 a8 a9) true lt5 s=.ok (.bool (decide ((p:Int) < (text.length:Int)))) s:=rfl
inductive RdEnd (P:Par) (text:List Nat) (pre:List AO) (vs:List V) (p:Nat) (X:List V→V→Prop):Prop
  | mk (T:List V) (e:V) (h:X (vs++T) e) (hT:T.length+p ≤ text.length) (hf:∀ k,foundL P (T.length+k) (text.drop p)=T++List.replicate k e) (he:∀ n,V.low n e=true) (hl:∀ n,lows n T=true):RdEnd P text pre vs p X
theorem trim5 {q:Nat} {x:List Nat} {r:List AO} (h:Hr RL OL ro ou text pre) (hvl:∀ n,lows n vs=true) (f8:Fs a8) (f9:Fs a9):trim 27 (r5 text q sp (sv x) (.val (.int (p:Int))) a8 a9) (hv pre vs++r)=(r5 text q sp (sv x) (.val (.int (p:Int))) a8 a9,hv pre vs):=by
  refine trim_tail h.n ((h.di hvl).low 27 (by decide)) ?_ ?_ fun _=>rfl
  · rcases f8 with e | ⟨_,e⟩<;>rcases f9 with e' | ⟨_,e'⟩<;>rw [e,e']<;>rfl
  · rcases f8 with e | ⟨_,e⟩<;>rcases f9 with e' | ⟨_,e'⟩<;>rw [e,e']<;>rfl
theorem read_loop (h:Hr RL OL ro ou text pre) (hn:text.length ≤ 1000) (hK:text.length < K) (hA:∀ c ∈ text,Sg P ro ou c) (hsp:P.sp=sp) (hq97:P.qs.contains 97=false) (m:Nat):∀ (p f:Nat) (vs:List V) (a6 a7 a8 a9:LV),text.length ≤ p+m→p ≤ text.length→m < f→vs.length ≤ p→(∀ n,lows n vs=true)→Fr a6→Fr a7→Fs a8→Fs a9 →
    RdEnd P text pre vs p (fun T e=>X5 K (d+2) f (r5 text p sp a6 a7 a8 a9) (hv pre vs)=.ret (.tup [.obj 26,e]) (hv pre T)):=by
  have out:∀ (p f:Nat) (vs:List V) (a6 a7 a8 a9:LV),p=text.length→RdEnd P text pre vs p (fun T e=>X5 K (d+2) (f+1) (r5 text p sp a6 a7 a8 a9) (hv pre vs)=.ret (.tup [.obj 26,e]) (hv pre T)):=by
    intro p f vs a6 a7 a8 a9 e
    have e1:W5 K (d+2) (f+1) (r5 text p sp a6 a7 a8 a9) (hv pre vs)=.next (r5 text p sp a6 a7 a8 a9) (hv pre vs):=while_f (by rw [lt5_eval,e,decide_eq_false (Int.lt_irrefl _)])
    have e2:∀ k,foundL P k (text.drop p)=List.replicate k .none:=found_eof (by rw [e,List.drop_length]; rfl)
    refine .mk [] .none ?_ (by rw [e]; exact Nat.le_of_eq (Nat.zero_add _)) (fun k=>by show foundL _ (0+k) _=_; rw [Nat.zero_add]; exact e2 k) (fun _=>rfl) (fun _=>rfl)
    show (W5 K (d+2) (f+1) (r5 text p sp a6 a7 a8 a9) (hv pre vs)).seq _=_
    rw [e1,List.append_nil]
    rfl
  induction m with
  | zero =>
    intro p f vs a6 a7 a8 a9 h1 h0 hf hv hvl f6 f7 f8 f9
    cases f with
    | zero=>exact absurd hf (Nat.lt_irrefl 0)
    | succ f=>exact out p f vs a6 a7 a8 a9 (Nat.le_antisymm h0 h1)
  | succ m ih =>
    intro p f vs a6 a7 a8 a9 h1 h0 hf hvp hvl f6 f7 f8 f9
    cases f with
    | zero=>exact absurd hf (Nat.not_lt_zero _)
    | succ f =>
      cases hc:text[p]? with
      | none=>exact out p f vs a6 a7 a8 a9 (Nat.le_antisymm h0 (List.getElem?_eq_none_iff.mp hc))
      | some c =>
        have hp:=at_lt hc
        have hvlim:vs.length+1 ≤ lim:=Nat.le_trans (Nat.add_le_add_right (Nat.le_trans hvp (Nat.le_trans h0 hn)) 1) (by decide)
        obtain ⟨r,hr,eb⟩:=read_turn (d:=d) (vs:=vs) h hvl hvlim hn hK hA hsp hq97 hc f6 f7 f8 f9
        have e1:W5 K (d+2) (f+1) (r5 text p sp a6 a7 a8 a9) (hv pre vs)=loopRes (W5 K (d+2) f) 27 true (execs tab (callF tab K (d+2)) K b5_10 (r5 text p sp a6 a7 a8 a9) (hv pre vs)):=by
          rw [← h.n (vs:=vs)]
          exact while_t (by rw [lt5_eval,decide_eq_true (Int.ofNat_lt.mpr hp)])
        have on:∀ (q:Nat) (x:List Nat) (b8 b9:LV) (vs2:List V) (r0:List AO),(∀ n,lows n vs2=true)→Fs b8→Fs b9→r=.next (r5 text p sp (sv x) (.val (.int (q:Int))) b8 b9) (hv pre vs2++r0)→X5 K (d+2) (f+1) (r5 text p sp a6 a7 a8 a9) (hv pre vs)=X5 K (d+2) f (r5 text q sp (sv x) (.val (.int (q:Int))) b8 b9) (hv pre vs2):=by
          intro q x b8 b9 vs2 r0 hl2 g8 g9 e
          have e2:execs tab (callF tab K (d+2)) K b5_10 (r5 text p sp a6 a7 a8 a9) (hv pre vs)=.next (r5 text q sp (sv x) (.val (.int (q:Int))) b8 b9) (hv pre vs2++r0):=by rw [eb,e]; rfl
          show (W5 K (d+2) (f+1) (r5 text p sp a6 a7 a8 a9) (hv pre vs)).seq _=_
          rw [e1,e2,loop_next,trim5 h hl2 g8 g9]
        have hf:=Nat.lt_of_succ_lt_succ hf
        rcases hr with ⟨q,x,b8,b9,hq,hpq,e,er,g8,g9⟩ | ⟨t,u,q,x,b8,b9,r0,hq,hpq,e,er,er2,g8,g9⟩ | ⟨x,e,hx⟩
        · obtain ⟨T,y,k1,k2,k3,k4,k5⟩:=ih q f vs (sv x) (.val (.int (q:Int))) b8 b9 (by omega) hq hf (by omega) hvl Fr.v Fr.v g8 g9
          exact .mk T y ((on _ _ _ _ _ [] hvl g8 g9 (by rw [List.append_nil]; exact e)).trans k1) (by omega) (fun k=>(found_of er _).trans (k3 k)) k4 k5
        · have hl2:∀ n,lows n (vs++[.str t])=true:=fun n=>by rw [lows_app,hvl]; rfl
          obtain ⟨T,y,k1,k2,k3,k4,k5⟩:=ih q f (vs++[.str t]) (sv x) (.val (.int (q:Int))) b8 b9 (by omega) hq hf (by rw [List.length_append]; show vs.length+1 ≤ q; omega) hl2 Fr.v Fr.v g8 g9
          refine .mk (.str t :: T) y ((on _ _ _ _ _ r0 hl2 g8 g9 e).trans (by rw [List.append_assoc] at k1; exact k1)) (by rw [List.length_cons]; omega) (fun k=>?_) k4 k5
          rw [List.length_cons,show T.length+1+k=T.length+k+1 from by omega,found_ok er,found_of er2,k3]
          rfl
        · refine .mk [] x ?_ (by show 0+p ≤ _; omega) (fun k=>by show foundL _ (0+k) _=_; rw [Nat.zero_add]; exact hx k) (fun n=>low_of hx) (fun _=>rfl)
          show (W5 K (d+2) (f+1) (r5 text p sp a6 a7 a8 a9) (hv pre vs)).seq _=_
          rw [e1,eb,e,List.append_nil]
          rfl
theorem read_eval (h:Hr RL OL ro ou text pre) (hn:text.length ≤ 1000) (hK:text.length < K) (hA:∀ c ∈ text,Sg P ro ou c) (hsp:P.sp=sp) (hq97:P.qs.contains 97=false) :
    RdEnd P text pre [] 0 (fun T e=>callF tab K (d+3) 5 [.str text,.obj 6,.obj 7,.bool sp] pre=.ok (.tup [.obj 26,e]) (hv pre T)):=by
  have e1:callF tab K (d+3) 5 [.str text,.obj 6,.obj 7,.bool sp] pre=endCall pre.length (execs tab (callF tab K (d+2)) K b5_11 [.val (.str text),.val (.obj 6),.val (.obj 7),.val (.bool sp),.un,.un,.un,.un,.un,.un,.un,.un] (pre++[])):=by rfl
  have s1:execS tab (callF tab K (d+2)) K (.asg 4 (.list .nil)) [.val (.str text),.val (.obj 6),.val (.obj 7),.val (.bool sp),.un,.un,.un,.un,.un,.un,.un,.un] pre=.next [.val (.str text),.val (.obj 6),.val (.obj 7),.val (.bool sp),.val (.obj 26),.un,.un,.un,.un,.un,.un,.un] (hv pre []):=by
    refine asg_ok (v:=.obj 26) (s1:=hv pre []) ?_ rfl
    show (R.ok (V.obj pre.length) (pre++[.list []]):R V)=_
    rw [h.len]
  have e2:execs tab (callF tab K (d+2)) K b5_11 [.val (.str text),.val (.obj 6),.val (.obj 7),.val (.bool sp),.un,.un,.un,.un,.un,.un,.un,.un] pre=X5 K (d+2) K (r5 text 0 sp .un .un .un .un) (hv pre []):=by
    unfold b5_11
    rw [seq_next s1,seq_next (l1:=r5 text 0 sp .un .un .un .un) (s1:=hv pre []) rfl,xcons]
    rfl
  obtain ⟨T,e,k1,k2,k3,k4,k5⟩:=read_loop (K:=K) (d:=d) h hn hK hA hsp hq97 text.length 0 K [] .un .un .un .un (Nat.le_add_left _ _) (Nat.zero_le _) hK (Nat.le_refl 0) (fun _=>rfl) Fr.u Fr.u (.inl rfl) (.inl rfl)
  refine .mk T e ?_ k2 k3 k4 k5
  rw [e1,List.append_nil,e2,k1]
  show leave pre.length (.tup [.obj 26,e]) (hv pre ([]++T))=_
  have hlow:V.low pre.length (.tup [.obj 26,e])=false:=by
    show (decide (26 < pre.length)&&(V.low pre.length e&&true))=false
    rw [h.len]; rfl
  unfold leave
  split
  · rfl
  · split
    · show (if V.low pre.length (.tup [.obj 26,e])=true then _ else (R.ok (.tup [.obj 26,e]) (hv pre ([]++T)):R V))=_
      rw [if_neg (ff hlow)]
    · rfl
end
structure Lo where
  (script:List V) (white hides sign text marks:List Nat) (split:Bool) (e:V)
noncomputable def lf (o:Lo) (a17 a18:LV):List LV:=[.val (.lst o.script),.val (.obj 2),.val (.obj 5),.cel 0,.cel 1,.val (.int 6),.val (.bool o.split),.val (.str o.white),.val (.str o.hides),.val (.obj 7),.val (.str o.sign),.val (.str o.text),.val (.str o.marks),.val (.obj 12),.val (.obj 26),.val o.e,.val (.obj 27),a17,a18,.un,.un,.un,.un,.un,.un,.un]
section
variable {g:G} {σ σ':Lx} {K d j:Nat} {o:Lo} {vs:List V} {v x:V} {a17:LV} {m:List Nat} {P:Par}
noncomputable abbrev gf (g:G) (vs:List V):G:={ g with y1:=.list vs }
theorem app_found (hl:vs.length+1 ≤ lim):bmOp (hp (gf g vs) σ) .append (.obj 27) [v]=.ok .none (hp (gf g (vs++[v])) σ):=if_pos hl
theorem try_ok (hl:vs.length+1 ≤ lim) (hv:callF tab K (d+5) 17 [.obj 12] (hp (gf g vs) σ)=.ok v (hp (gf g vs) σ')) :
    execs tab (callF tab K (d+5)) K b14_7 (lf o a17 .un) (hp (gf g vs) σ)=.next (lf o a17 .un) (hp (gf g (vs++[v])) σ'):=by
  have ec:evalE tab (callF tab K (d+5)) K (lf o a17 .un) false (.callM (.loc 13) 29 .nil) (hp (gf g vs) σ)=.ok v (hp (gf g vs) σ'):=hv
  have e0:execs tab (callF tab K (d+5)) K b14_5 (lf o a17 .un) (hp (gf g vs) σ)=.next (lf o a17 .un) (hp (gf g (vs++[v])) σ') :=
    xone.trans (expr_ok (bm_ok (k:=.append) (x:=.obj 27) (i:=0) rfl (loc_val rfl) rfl (es1 ec) rfl (app_found hl)) rfl)
  unfold b14_7
  rw [xone,try_eq rfl,e0]
  rfl
theorem try_bad (hl:vs.length+1 ≤ lim) (hm:m.length ≤ lim) (hv:callF tab K (d+5) 17 [.obj 12] (hp (gf g vs) σ)=.exc m (hp (gf g vs) σ')) :
    execs tab (callF tab K (d+5)) K b14_7 (lf o a17 .un) (hp (gf g vs) σ)=.next (lf o a17 .un) (hp (gf g (vs++[refE m])) σ'):=by
  have ec:evalE tab (callF tab K (d+5)) K (lf o a17 .un) false (.callM (.loc 13) 29 .nil) (hp (gf g vs) σ)=.exc m (hp (gf g vs) σ'):=hv
  have e3:evalEs tab (callF tab K (d+5)) K (lf o a17 .un) (.cons (.callM (.loc 13) 29 .nil) .nil) (hp (gf g vs) σ)=.exc m (hp (gf g vs) σ'):=by
    show (evalE tab (callF tab K (d+5)) K (lf o a17 .un) false (.callM (.loc 13) 29 .nil) (hp (gf g vs) σ)).bind _=_
    rw [ec]
  have e4:evalE tab (callF tab K (d+5)) K (lf o a17 .un) false (.bm .append (.loc 16) (.cons (.callM (.loc 13) 29 .nil) .nil)) (hp (gf g vs) σ)=.exc m (hp (gf g vs) σ'):=by
    show (evalEs tab (callF tab K (d+5)) K (lf o a17 .un) (.cons (.callM (.loc 13) 29 .nil) .nil) (hp (gf g vs) σ)).bind _=_
    rw [e3]
  have e0:execs tab (callF tab K (d+5)) K b14_5 (lf o a17 .un) (hp (gf g vs) σ)=.exc 1 m (lf o a17 .un) (hp (gf g vs) σ'):=by
    show ((evalE tab (callF tab K (d+5)) K (lf o a17 .un) false (.bm .append (.loc 16) (.cons (.callM (.loc 13) 29 .nil) .nil)) (hp (gf g vs) σ)).st _ _).seq _=_
    rw [e4]
  have eh:execs { tab with hd:=true } (fun _ _ _=>.fail) 0 b14_6 (lf o a17 (.val (.exc m))) (hp (gf g vs) σ')=.next (lf o a17 (.val (.exc m))) (hp (gf g (vs++[refE m])) σ'):=by
    show ((R.st (if vs.length+1 ≤ lim then (R.ok V.none (hp (gf g (vs++[refE m])) σ'):R V) else R.fail) (lf o a17 (.val (.exc m))) _).seq _)=_
    rw [if_pos hl]
    rfl
  unfold b14_7
  rw [xone,try_eq rfl,e0,try_exc (l1:=lf o a17 (.val (.exc m))) (s1:=hp (gf g vs) σ') hm rfl,eh]
  rfl
inductive FS (P:Par) (n:Nat) (σ:Lx):(Nat→List V)→Prop
  | go (rest:List Nat) (ht:σ.tok=[]) (hs:σ.st=.str [32]) (hl:rest.length ≤ n) (hr:Rep σ.buf σ.pos σ.pb rest):FS P n σ (fun m=>foundL P m rest)
  | eof (ht:σ.tok=[]) (hs:σ.st=.none) (hr:Rep σ.buf σ.pos σ.pb []):FS P n σ (fun m=>List.replicate m .none)
  | bad (s:Nat) (b:Bool) (hs:σ.st=.str [s]) (h:b=true∧P.qs.contains s=true ∨ b=false∧P.es.contains s=true) (hr:Rep σ.buf σ.pos σ.pb []):FS P n σ (fun m=>List.replicate m (refE (if b=true then noClose else noEsc)))
inductive FT (P:Par) (n:Nat) (g:G) (vs:List V) (F:Nat→List V) (X:V→Lx→Prop):Prop
  | mk (x:V) (σ':Lx) (F':Nat→List V) (h:X x σ') (hF:∀ m,F (m+1)=x :: F' m) (fs:FS P n σ' F') (ok:LxOk σ') (hp:σ'.par=P):FT P n g vs F X
theorem mlim {b:Bool}:(if b=true then noClose else noEsc).length ≤ lim:=by cases b<;>decide
theorem found_turn {n:Nat} {F:Nat→List V} (ok:LxOk σ) (hP:σ.par=P) (hK:n < K) (hn:n < 2 ^ 20) (hl:vs.length+1 ≤ lim) (fs:FS P n σ F):FT P n g vs F (fun x σ'=>execs tab (callF tab K (d+5)) K b14_7 (lf o a17 .un) (hp (gf g vs) σ)=.next (lf o a17 .un) (hp (gf g (vs++[x])) σ')):=by
  have h0:0 < K:=Nat.lt_of_le_of_lt (Nat.zero_le _) hK
  rcases fs with ⟨rest,ht,hs,hl',hr⟩ | ⟨ht,hs,hr⟩ | ⟨s,b,hs,h,hr⟩
  · have hg:=getTok (g:=gf g vs) (K:=K) (d:=d) ok ht hs (Nat.lt_of_le_of_lt hl' hK) hr (Nat.lt_of_le_of_lt hl' hn)
    rw [hP] at hg
    have htk:=r0_ok P rest σ.ln false
    have ez:z0 P rest=rz (r0 P σ.ln false rest):=rz_r0 _ _ _ _ _
    generalize r0 P σ.ln false rest=tk at hg htk ez
    rcases hg with ⟨t,rest',ln,st,p',pb',hw,hr'⟩ | ⟨ln,p',pb',hw,hr'⟩ | ⟨m,t,ln,s,p',pb',hw,hr'⟩
    · rcases htk with ⟨_,_,_,_,hst,hlr⟩
      rcases hst with ⟨e1,e2⟩ | e1
      · refine .mk (.str t) (σ.put [] st ln p' pb') (fun m=>List.replicate m .none) (try_ok hl hw) (fun m=>?_) (.eof rfl e1 (by rw [e2] at hr'; exact hr')) (ok.at _ _ _ _ _) hP
        rw [found_ok ez,e2]
        exact congrArg _ (found_eof rfl m)
      · exact .mk (.str t) (σ.put [] st ln p' pb') (fun m=>foundL P m rest') (try_ok hl hw) (fun m=>found_ok ez m) (.go rest' rfl e1 (Nat.le_trans hlr hl') hr') (ok.at _ _ _ _ _) hP
    · exact .mk .none (σ.put [] .none ln p' pb') (fun m=>List.replicate m .none) (try_ok hl hw) (fun m=>found_eof ez (m+1)) (.eof rfl rfl hr') (ok.at _ _ _ _ _) hP
    · have hb:∃ b:Bool,m=(if b=true then noClose else noEsc)∧(b=true∧P.qs.contains s=true ∨ b=false∧P.es.contains s=true):=by
        cases htk with
        | close _ _ _ h=>exact ⟨true,rfl,.inl ⟨rfl,h⟩⟩
        | esc _ _ _ h=>exact ⟨false,rfl,.inr ⟨rfl,h⟩⟩
      obtain ⟨b,em,hb⟩:=hb
      rw [em] at hw ez
      exact .mk (refE (if b=true then noClose else noEsc)) (σ.put t (.str [s]) ln p' pb') (fun m=>List.replicate m (refE (if b=true then noClose else noEsc))) (try_bad hl mlim hw) (fun m=>found_bad ez (m+1)) (.bad s b rfl hb hr') (ok.at _ _ _ _ _) hP
  · obtain ⟨p0,ps,hpu⟩:=ok.pu
    exact .mk .none σ (fun m=>List.replicate m .none) (try_ok hl (getEnd hpu ht hs h0 hr)) (fun m=>rfl) (.eof ht hs hr) ok hP
  · rw [← hP] at h
    exact .mk (refE (if b=true then noClose else noEsc)) σ (fun m=>List.replicate m (refE (if b=true then noClose else noEsc))) (try_bad hl mlim (getBad (P:=b) ok hs h h0 hr)) (fun m=>rfl) (.bad s b hs (by rw [← hP]; exact h) hr) ok hP
noncomputable abbrev rngV (n:Nat):List V:=(List.range n).map fun (i:Nat)=>V.int i
theorem rng_end {n:Nat} {s:List AO}:(Src.fixed (rngV n)).at s n=some none:=by
  show some (rngV n)[n]?=_
  rw [List.getElem?_eq_none (by rw [List.length_map,List.length_range]; exact Nat.le_refl n)]
theorem rng_at {n:Nat} {s:List AO} (hj:j < n):(Src.fixed (rngV n)).at s j=some (some (.int (j:Int))):=by
  show some (rngV n)[j]?=_
  rw [List.getElem?_map,List.getElem?_range hj]
  rfl
noncomputable abbrev FL (K d n:Nat):Nat→Nat→List LV→List AO→RS:=forTurns (.fixed (rngV n)) 17 (fun l s=>execs tab (callF tab K (d+5)) K b14_7 l s)
theorem found_loop {n N:Nat} (hK:N < K) (hN:N < 2 ^ 20) (m:Nat):∀ (j f:Nat) (σ:Lx) (vs:List V) (a17:LV) (F:Nat→List V),j+m=n→m < f→LxOk σ→σ.par=P→FS P N σ F→vs.length+m ≤ 10000→Fr a17 →
    ∃ σ' a,FL K d n f j (lf o a17 .un) (hp (gf g vs) σ)=.next (lf o a .un) (hp (gf g (vs++F m)) σ'):=by
  induction m with
  | zero =>
    intro j f σ vs a17 F hj hf ok hP fs hv ha
    cases f with
    | zero=>exact absurd hf (Nat.lt_irrefl 0)
    | succ f =>
      have hj:j=n:=hj
      have e:F 0=[]:=by rcases fs with ⟨rest,ht,hs,hl',hr⟩ | ⟨ht,hs,hr⟩ | ⟨s,b,hs,h,hr⟩<;>rfl
      rw [e,List.append_nil,hj]
      exact ⟨σ,a17,for_end rng_end⟩
  | succ m ih =>
    intro j f σ vs a17 F hj hf ok hP fs hv ha
    cases f with
    | zero=>exact absurd hf (Nat.not_lt_zero _)
    | succ f =>
      have hjn:j < n:=hj ▸ Nat.lt_add_of_pos_right (Nat.succ_pos m)
      obtain ⟨x,σ',F',h1,hF,fs',ok',hP'⟩:=found_turn (g:=g) (K:=K) (d:=d) (o:=o) (vs:=vs) (a17:=.val (.int (j:Int))) ok hP hK hN (Nat.le_trans (show vs.length+1 ≤ 10000 by omega) (by decide)) fs
      obtain ⟨σ2,a,h2⟩:=ih (j+1) f σ' (vs++[x]) (.val (.int (j:Int))) F' ((Nat.succ_add_eq_add_succ j m).trans hj) (Nat.lt_of_succ_lt_succ hf) ok' hP' fs' (by rw [List.length_append]; show vs.length+1+m ≤ _; omega) Fr.v
      refine ⟨σ2,a,?_⟩
      have e1:FL K d n (f+1) j (lf o a17 .un) (hp (gf g vs) σ)=loopRes (FL K d n f (j+1)) 28 false (execs tab (callF tab K (d+5)) K b14_7 (lf o (.val (.int (j:Int))) .un) (hp (gf g vs) σ)) :=
        for_step (l1:=lf o (.val (.int (j:Int))) .un) (s1:=hp (gf g vs) σ) (v:=.int (j:Int)) (rng_at hjn) (by rcases ha with e | ⟨v,e⟩<;>rw [e]<;>rfl)
      rw [e1,h1,hF,loop_next]
      rw [List.append_assoc] at h2
      exact h2
end
theorem lows_ints (n:Nat) (ds:List Nat):lows n (intsV ds)=true:=by
  induction ds with
  | nil=>rfl
  | cons a l ih=>exact ih
noncomputable abbrev chars (l:List Nat):List V:=l.map fun (c:Nat)=>V.str [c]
theorem lows_chars (n:Nat) (l:List Nat):lows n (chars l)=true:=by
  induction l with
  | nil=>rfl
  | cons a l ih=>exact ih
section
variable {K d:Nat} {vs sl:List V}
noncomputable def Dg (row:List V):Prop:=∃ l:List Nat,row=intsV l∧∀ n ∈ l,n < 16
theorem Dg.snoc {row:List V} (h:Dg row) {i:Int}:Dg (row++[.int (i % 16)]):=by
  obtain ⟨l,e,hl⟩:=h
  have h0:0 ≤ i % 16:=Int.emod_nonneg _ (by decide)
  have h1:i % 16 < 16:=Int.emod_lt_of_pos _ (by decide)
  refine ⟨l++[(i % 16).toNat],?_,?_⟩
  · rw [e]
    unfold intsV
    rw [List.map_append,List.map_cons,List.map_nil,Int.toNat_of_nonneg h0]
  · intro n m
    rcases List.mem_append.mp m with m | m
    · exact hl n m
    · rw [List.mem_singleton.mp m]
      exact (Int.toNat_lt h0).mpr h1
noncomputable def gl (vs:List V) (a b:LV):List LV:=[.val (.lst vs),.val (.obj 2),a,b]
noncomputable abbrev h4_ (row sl:List V):List AO:=[.cell none,.cell none,.list row,.list sl]
theorem app2 {row:List V} {v:V} (h:row.length+1 ≤ lim):bmOp (h4_ row sl) .append (.obj 2) [v]=.ok .none (h4_ (row++[v]) sl):=if_pos h
theorem appS {row:List V} {a:LV} {r:Int} (h:row.length+1 ≤ lim) {cf:Nat→List V→List AO→R V}:execS tab cf K (.expr (.bm .append (.loc 1) (.cons (.bin .mod (.loc 3) (.lit (.int 16))) .nil))) (gl vs a (.val (.int r))) (h4_ row sl)=.next (gl vs a (.val (.int r))) (h4_ (row++[.int (r % 16)]) sl) :=
  expr_ok (bm_ok (k:=.append) (x:=.obj 2) (i:=0) rfl (loc_val rfl) rfl (es1 (bin_ok (r:=.ok (.int (r % 16)) (h4_ row sl)) (loc_val rfl) lit_ok rfl)) rfl (app2 h)) rfl
noncomputable abbrev WX (K d:Nat):Nat→List LV→List AO→RS:=whileTurns (fun l s=>evalE tab (callF tab K d) K l true (.cmp .gt (.loc 3) (.lit (.int 15))) s) (fun l s=>execs tab (callF tab K d) K b1_0 l s)
inductive DgEnd (vs sl:List V) (a:LV) (n m:Nat) (r:RS):Prop
  | mk (row:List V) (b:LV) (e:r=.next (gl vs a b) (h4_ row sl)) (h:Dg row) (hl:row.length ≤ m) (hn:n ≤ row.length) (hb:Fr b):DgEnd vs sl a n m r
theorem dgLoop (k:Nat):∀ (f:Nat) (row:List V) (a:LV) (r:Int),r < 16 ^ (k+1)→k < f→Dg row→row.length+k ≤ 1000→DgEnd vs sl a row.length (row.length+k) (WX K d f (gl vs a (.val (.int r))) (h4_ row sl)):=by
  have stop:∀ (f k:Nat) (row:List V) (a:LV) (r:Int),¬ r > 15→Dg row→DgEnd vs sl a row.length (row.length+k) (WX K d (f+1) (gl vs a (.val (.int r))) (h4_ row sl)):=by
    intro f k row a r h hD
    refine .mk row (.val (.int r)) (while_f ?_) hD (Nat.le_add_right _ _) (Nat.le_refl _) Fr.v
    show (R.ok (V.bool (decide (r > 15))) (h4_ row sl):R V)=_
    rw [decide_eq_false h]
  induction k with
  | zero =>
    intro f row a r hr hf hD hl
    cases f with
    | zero=>exact absurd hf (Nat.lt_irrefl 0)
    | succ f=>exact stop f 0 row a r (by have:(16:Int) ^ (0+1)=16:=rfl; omega) hD
  | succ k ih =>
    intro f row a r hr hf hD hl
    cases f with
    | zero=>exact absurd hf (Nat.not_lt_zero _)
    | succ f =>
      by_cases h:r > 15
      · have ec:evalE tab (callF tab K d) K (gl vs a (.val (.int r))) true (.cmp .gt (.loc 3) (.lit (.int 15))) (h4_ row sl)=.ok (.bool true) (h4_ row sl):=by
          show (R.ok (V.bool (decide (r > 15))) (h4_ row sl):R V)=_
          rw [decide_eq_true h]
        have e1:WX K d (f+1) (gl vs a (.val (.int r))) (h4_ row sl)=loopRes (WX K d f) 4 true (execs tab (callF tab K d) K b1_0 (gl vs a (.val (.int r))) (h4_ row sl)):=while_t ec
        have hq:r / 16 < 16 ^ (k+1):=by
          refine Int.ediv_lt_of_lt_mul (by decide) ?_
          rw [← Int.pow_succ]; exact hr
        have e2:execs tab (callF tab K d) K b1_0 (gl vs a (.val (.int r))) (h4_ row sl)=.next (gl vs a (.val (.int (r / 16)))) (h4_ (row++[.int (r / 16 % 16)]) sl):=by
          unfold b1_0
          rw [seq_next (asg_ok (bin_ok (r:=.ok (.int (r / 16)) (h4_ row sl)) (loc_val rfl) lit_ok rfl) (rs:=.next (gl vs a (.val (.int (r / 16)))) (h4_ row sl)) rfl),xone]
          exact appS (Nat.le_trans (show row.length+1 ≤ 1001 by omega) (by decide))
        have hlen:(row++[V.int (r / 16 % 16)]).length=row.length+1:=by rw [List.length_append]; rfl
        obtain ⟨row2,b,g1,g2,g3,g4,g5⟩:=ih f (row++[.int (r / 16 % 16)]) a (r / 16) hq (Nat.lt_of_succ_lt_succ hf) hD.snoc (by omega)
        rw [e1,e2]
        exact .mk row2 b g1 g2 (by omega) (by omega) g5
      · exact stop f _ row a r h hD
theorem set2 {a b:LV} {v:V} {s:List AO} (hb:Fr a):setLoc (gl vs a b) s 2 v=.next (gl vs (.val v) b) s:=by
  rcases hb with e | ⟨v,e⟩<;>rw [e]<;>rfl
theorem set3 {a b:LV} {v:V} {s:List AO} (hb:Fr b):setLoc (gl vs a b) s 3 v=.next (gl vs a (.val v)) s:=by
  rcases hb with e | ⟨v,e⟩<;>rw [e]<;>rfl
theorem dgBody {row:List V} {i:Int} {b:LV} (hb:Fr b) (hK:4 < K) (hD:Dg row) (hl:row.length ≤ 900):DgEnd vs sl (.val (.int i)) (row.length+1) (row.length+4) (execs tab (callF tab K d) K b1_1 (gl vs (.val (.int i)) b) (h4_ row sl)):=by
  have e1:execS tab (callF tab K d) K (.asg 3 (.bin .mod (.loc 2) (.bin .pow (.lit (.int 16)) (.lit (.int 4))))) (gl vs (.val (.int i)) b) (h4_ row sl)=.next (gl vs (.val (.int i)) (.val (.int (i % 65536)))) (h4_ row sl) :=
    asg_ok (bin_ok (x:=.int i) (y:=.int 65536) (r:=.ok (.int (i % 65536)) (h4_ row sl)) (loc_val rfl) (bin_ok lit_ok lit_ok rfl) rfl) (set3 hb)
  have hlen:(row++[V.int (i % 65536 % 16)]).length=row.length+1:=by rw [List.length_append]; rfl
  obtain ⟨row2,b2,g1,g2,g3,g4,g5⟩:=dgLoop (K:=K) (d:=d) (vs:=vs) (sl:=sl) 3 K (row++[.int (i % 65536 % 16)]) (.val (.int i)) (i % 65536) (Int.emod_lt_of_pos _ (by decide)) (Nat.lt_of_succ_lt hK) hD.snoc (by omega)
  unfold b1_1
  rw [seq_next e1,seq_next (appS (Nat.le_trans (show row.length+1 ≤ 901 by omega) (by decide))),xone]
  exact .mk row2 b2 g1 g2 (by omega) (by omega) g5
noncomputable abbrev FX (K d:Nat):Nat→Nat→List LV→List AO→RS:=forTurns (.live 3) 2 (fun l s=>execs tab (callF tab K d) K b1_1 l s)
theorem dgFor {is:List Int} (hK:4 < K) (his:is.length ≤ 40) (m:Nat):∀ (f j:Nat) (a b:LV) (row:List V),j+m=is.length→m < f→Fr a→Fr b→Dg row→row.length ≤ 4 * j→j ≤ row.length →
    ∃ a',DgEnd vs (is.map .int) a' is.length 160 (FX K d f j (gl vs a b) (h4_ row (is.map .int))):=by
  induction m with
  | zero =>
    intro f j a b row hj hf ha hb hD hl hl2
    cases f with
    | zero=>exact absurd hf (Nat.lt_irrefl 0)
    | succ f =>
      have hj:j=is.length:=hj
      refine ⟨a,.mk row b (for_end ?_) hD (by omega) (by omega) hb⟩
      show some ((is.map V.int)[j]?)=some none
      rw [List.getElem?_eq_none (by rw [List.length_map,hj]; exact Nat.le_refl _)]
  | succ m ih =>
    intro f j a b row hj hf ha hb hD hl hl2
    cases f with
    | zero=>exact absurd hf (Nat.not_lt_zero _)
    | succ f =>
      have hlt:j < is.length:=hj ▸ Nat.lt_add_of_pos_right (Nat.succ_pos m)
      have ei:(is.map V.int)[j]?=some (.int is[j]):=by rw [List.getElem?_map,List.getElem?_eq_getElem hlt]; rfl
      obtain ⟨row',b',h1,h2',h4,h4',hh5'⟩:=dgBody (K:=K) (d:=d) (sl:=is.map .int) (vs:=vs) (i:=is[j]) hb hK hD (by omega)
      obtain ⟨a',g⟩:=ih f (j+1) (.val (.int is[j])) b' row' ((Nat.succ_add_eq_add_succ j m).trans hj) (Nat.lt_of_succ_lt_succ hf) Fr.v hh5' h2' (by omega) (by omega)
      refine ⟨a',?_⟩
      rw [show FX K d (f+1) j (gl vs a b) (h4_ row (is.map .int))=_ from for_step (v:=.int is[j]) (show (Src.live 3).at (h4_ row (is.map .int)) j=_ from congrArg some ei) (set2 ha),h1]
      exact g
noncomputable abbrev cn2:List AO:=[.cell none,.cell none]
theorem dg_eval {is:List Int} (hK:41 < K) (hne:is ≠ []):∃ l:List Nat,(∀ n ∈ l,n < 16)∧l.length ≤ 160∧l ≠ []∧callF tab K (d+1) 1 [.lst (is.map .int)] cn2=.ok (.obj 2) (cn2++[.list (intsV l)]):=by
  have hslice:sliceOp (cn2++[.list []]) (.lst (is.map .int)) .none (.int 40)=.ok (.obj 3) (h4_ [] ((is.take 40).map .int)):=by
    show (R.ok (V.obj 3) (cn2++[AO.list []]++[.list (((is.map V.int).take (min 40 (is.map V.int).length)).drop 0)]):R V)=_
    rw [List.drop_zero,List.length_map,← List.map_take,← List.take_take,List.take_length]
    rfl
  obtain ⟨a',row',b',h1,h2',h4,h4',_⟩:=dgFor (K:=K) (d:=d) (vs:=is.map .int) (is:=is.take 40) (Nat.lt_trans (by decide) hK) (List.length_take_le _ _) (is.take 40).length K 0 .un .un [] (Nat.zero_add _) (Nat.lt_of_le_of_lt (Nat.le_trans (List.length_take_le _ _) (by decide)) hK) Fr.u Fr.u ⟨[],rfl,fun n m=>nomatch m⟩ (Nat.zero_le _) (Nat.zero_le _)
  obtain ⟨l,e,h16⟩:=h2'
  have hpos:0 < (is.take 40).length:=by
    cases is with
    | nil=>exact absurd rfl hne
    | cons a r=>rw [List.length_take]; exact Nat.lt_min.mpr ⟨by decide,Nat.succ_pos _⟩
  rw [e,List.length_map] at h4 h4'
  refine ⟨l,h16,h4,fun e=>by rw [e] at h4'; exact absurd h4' (Nat.not_le_of_lt hpos),?_⟩
  have e0:execs tab (callF tab K d) K b1_2 [.val (.lst (is.map .int)),.un,.un,.un] cn2=((sliceOp (cn2++[.list []]) (.lst (is.map .int)) .none (.int 40)).st (gl (is.map .int) .un .un) fun v s=>RS.opt (srcOf s v) fun src=>forTurns src 2 (fun l s=>execs tab (callF tab K d) K b1_1 l s) K 0 (gl (is.map .int) .un .un) s).seq (execs tab (callF tab K d) K (.cons (.ret (.loc 1)) (.nil))):=by rfl
  have e1:execs tab (callF tab K d) K b1_2 [.val (.lst (is.map .int)),.un,.un,.un] cn2=.ret (.obj 2) (h4_ row' ((is.take 40).map .int)):=by
    rw [e0,hslice]
    show (FX K d K 0 (gl (is.map .int) .un .un) (h4_ [] ((is.take 40).map .int))).seq _=_
    rw [h1]
    rfl
  have e2:callF tab K (d+1) 1 [.lst (is.map .int)] cn2=endCall 2 (execs tab (callF tab K d) K b1_2 [.val (.lst (is.map .int)),.un,.un,.un] cn2):=by kernel_rfl
  rw [e2,e1,e]
  show (if lows 2 (intsV l)=true then (R.ok (V.obj 2) (cn2++[.list (intsV l)]):R V) else R.ok (V.obj 2) (h4_ (intsV l) ((is.take 40).map .int)))=_
  rw [if_pos (lows_ints 2 l)]
end
noncomputable def keysOf (g:List Nat):List (List Nat):=g.foldl addKey []
noncomputable def ordsOf (g:List Nat):List Nat:=(keysOf g).flatten.foldl addOrd []
theorem keys_run (g:List Nat):∀ l:List (List Nat),l.all (fun k=>k.length == 1)=true→(g.foldl addKey l).all (fun k=>k.length == 1)=true∧(g.foldl addKey l).length ≤ l.length+g.length∧∀ c,c ∈ (g.foldl addKey l).flatten ↔ c ∈ l.flatten ∨ c ∈ g:=by
  induction g with
  | nil=>exact fun l h=>⟨h,Nat.le_refl _,fun c=>⟨.inl,fun h=>h.elim id fun h=>nomatch h⟩⟩
  | cons a g ih =>
    intro l h
    have e:(a :: g).foldl addKey l=g.foldl addKey (if l.contains [a]=true then l else l++[[a]]):=rfl
    rw [e]
    by_cases q:l.contains [a]=true
    · rw [if_pos q]
      obtain ⟨h1,h2,h3⟩:=ih l h
      refine ⟨h1,Nat.le_succ_of_le h2,fun c=>(h3 c).trans ⟨fun x=>x.elim .inl fun x=>.inr (.tail _ x),fun x=>x.elim .inl fun x=>?_⟩⟩
      rcases List.mem_cons.mp x with e | x
      · exact .inl (List.mem_flatten.mpr ⟨[a],List.contains_iff_mem.mp q,by rw [e]; exact List.mem_singleton.mpr rfl⟩)
      · exact .inr x
    · rw [if_neg q]
      obtain ⟨h1,h2,h3⟩:=ih (l++[[a]]) (by rw [List.all_append,h]; rfl)
      refine ⟨h1,by rw [List.length_append] at h2; show _ ≤ l.length+(g.length+1); exact Nat.le_trans h2 (Nat.le_of_eq (Nat.add_right_comm l.length 1 g.length)),fun c=>(h3 c).trans ?_⟩
      rw [List.flatten_append,List.mem_append]
      show (c ∈ l.flatten ∨ c ∈ [a]) ∨ c ∈ g ↔ c ∈ l.flatten ∨ c ∈ a :: g
      rw [List.mem_singleton,List.mem_cons,or_assoc]
noncomputable abbrev wBase:List Nat:=[97,98,99,100,102,101,103,104,105,106,107,108,109,110,111,112,113,114,115,116,117,118,119,120,121,122,65,66,67,68,69,70,71,72,73,74,75,76,77,78,79,80,81,82,83,84,85,86,87,88,89,90,48,49,50,51,52,53,54,55,56,57,95]
noncomputable abbrev wLat:List Nat:=[223,224,225,226,227,228,229,230,231,232,233,234,235,236,237,238,239,240,241,242,243,244,245,246,248,249,250,251,252,253,254,255,192,193,194,195,196,197,198,199,200,201,202,203,204,205,206,207,208,209,210,211,212,213,214,216,217,218,219,220,221,222]
noncomputable abbrev wTail:List Nat:=[126,45,46,47,42,63,61]
noncomputable abbrev wAll:List Nat:=wBase++wLat++wTail
noncomputable def wcOf (mk:List Nat):List Nat:=wAll.filter fun c=>!(ordsOf mk).contains c
noncomputable def lx0 (text mk:List Nat) (sp:Bool):Lx where
  cm:=[35]
  wc:=wcOf mk
  ws:=[32,9,13,10]
  sp:=sp
  qs:=[39,34]
  es:=[92]
  eq:=[34]
  st:=.str [32]
  ln:=1
  tok:=[]
  pu:=mk
  buf:=text
  pos:=0
  pb:=[]
section
variable {c0 c1 c2 c3 c4 c5 c6 c7 c8 c9 c10:AO} {K d m0:Nat} {text ms mk:List Nat}
noncomputable def hA (c0 c1 c2 c3 c4 c5 c6 c7 c8 c9 c10:AO) (text:List Nat):List AO :=
  [c0,c1,c2,c3,c4,c5,c6,c7,c8,c9,c10,.attrs [(0,.obj 14),(1,.none),(2,.bool true),(3,.none),(4,.str [35]),(5,.str (wBase++wLat)),(6,.str [32,9,13,10]),(7,.bool false),(8,.str [39,34]),(9,.str [92]),(10,.str [34]),(11,.str [32]),(12,.obj 15),(13,.int 1),
    (14,.int 0),(15,.str []),(16,.obj 16),(17,.none)],.inst 0 11,.attrs [(21,.str [10]),(22,.str text),(23,.int 0)],.inst 1 13,.deque [],.deque []]
noncomputable def hB (c0 c1 c2 c3 c4 c5 c6 c7 c8 c9 c10:AO) (mk:List Nat) (σ:Lx):List AO :=
  [c0,c1,c2,c3,c4,c5,c6,c7,c8,c9,c10,.attrs [(0,.obj 14),(1,.none),(2,.bool true),(3,.none),(4,.str σ.cm),(5,.str σ.wc),(6,.str σ.ws),(7,.bool σ.sp),(8,.str σ.qs),(9,.str σ.es),(10,.str σ.eq),(11,σ.st),(12,.obj 15),(13,.int σ.ln),
    (14,.int 0),(15,.str σ.tok),(16,.obj 16),(17,.none),(18,.str σ.pu),(19,.obj 17)],.inst 0 11,.attrs [(21,.str [10]),(22,.str σ.buf),(23,.int σ.pos)],.inst 1 13,.deque [],.deque [],.deque σ.pb,.keys (keysOf mk),.ords (ordsOf mk)]
noncomputable abbrev l15 (x y z:LV):List LV:=[.val (.obj 12),x,.val .none,.val (.bool true),y,z,.un,.un,.un,.un,.un,.un]
noncomputable abbrev rest15:Sts:=.cons (.asgA (.loc 0) 18 (.loc 4)) (.cons (.if_ (.loc 4) b15_9 .nil) .nil)
theorem pre_given:execs tab (callF tab K (d+5)) K b15_10 (l15 (.val (.str text)) (.val (.str (m0 :: ms))) .un) [c0,c1,c2,c3,c4,c5,c6,c7,c8,c9,c10,.attrs [],.inst 0 11]=execs tab (callF tab K (d+5)) K rest15 (l15 (.val (.obj 14)) (.val (.str (m0 :: ms))) .un) (hA c0 c1 c2 c3 c4 c5 c6 c7 c8 c9 c10 text):=by kernel_rfl
noncomputable def hC (c0 c1 c2 c3 c4 c5 c6 c7 c8 c9 c10:AO) (text mk w:List Nat) (r:List AO):List AO :=
  [c0,c1,c2,c3,c4,c5,c6,c7,c8,c9,c10,.attrs [(0,.obj 14),(1,.none),(2,.bool true),(3,.none),(4,.str [35]),(5,.str w),(6,.str [32,9,13,10]),(7,.bool false),(8,.str [39,34]),(9,.str [92]),(10,.str [34]),(11,.str [32]),(12,.obj 15),(13,.int 1),
    (14,.int 0),(15,.str []),(16,.obj 16),(17,.none),(18,.str mk),(19,.obj 17)],.inst 0 11,.attrs [(21,.str [10]),(22,.str text),(23,.int 0)],.inst 1 13,.deque [],.deque [],.deque []]++r
theorem post (hl:(m0 :: ms).length ≤ 1000):execs tab (callF tab K (d+5)) K rest15 (l15 (.val (.obj 14)) (.val (.str (m0 :: ms))) .un) (hA c0 c1 c2 c3 c4 c5 c6 c7 c8 c9 c10 text)=.next (l15 (.val (.obj 14)) (.val (.str (m0 :: ms))) (.val (.obj 19))) (hB c0 c1 c2 c3 c4 c5 c6 c7 c8 c9 c10 (m0 :: ms) (lx0 text (m0 :: ms) false)):=by
  have e0:execs tab (callF tab K (d+5)) K rest15 (l15 (.val (.obj 14)) (.val (.str (m0 :: ms))) .un) (hA c0 c1 c2 c3 c4 c5 c6 c7 c8 c9 c10 text) =
      (execs tab (callF tab K (d+5)) K (.cons (.asg 5 (.bm .maketrans (.attr (.loc 0) 5) (.cons (.bi .fromkeys (.cons (.loc 4) .nil)) .nil))) (.cons (.asgA (.loc 0) 5 (.bm .translate (.attr (.loc 0) 5) (.cons (.loc 5) .nil))) (.nil))) (l15 (.val (.obj 14)) (.val (.str (m0 :: ms))) .un) (hC c0 c1 c2 c3 c4 c5 c6 c7 c8 c9 c10 text (m0 :: ms) wAll [])).seq (execs tab (callF tab K (d+5)) K .nil):=by kernel_rfl
  obtain ⟨k1,k2,_⟩:=keys_run (m0 :: ms) [] rfl
  have em:bmOp (hC c0 c1 c2 c3 c4 c5 c6 c7 c8 c9 c10 text (m0 :: ms) wAll [.keys (keysOf (m0 :: ms))]) .maketrans (.str wAll) [.obj 18]=.ok (.obj 19) (hC c0 c1 c2 c3 c4 c5 c6 c7 c8 c9 c10 text (m0 :: ms) wAll [.keys (keysOf (m0 :: ms)),.ords (ordsOf (m0 :: ms))]):=by
    have e:bmOp (hC c0 c1 c2 c3 c4 c5 c6 c7 c8 c9 c10 text (m0 :: ms) wAll [.keys (keysOf (m0 :: ms))]) .maketrans (.str wAll) [.obj 18]=if ((keysOf (m0 :: ms)).all (fun k=>k.length == 1)&&decide ((keysOf (m0 :: ms)).length ≤ lim))=true then (R.ok (.obj 19) (hC c0 c1 c2 c3 c4 c5 c6 c7 c8 c9 c10 text (m0 :: ms) wAll [.keys (keysOf (m0 :: ms)),.ords (ordsOf (m0 :: ms))]):R V) else .fail:=by kernel_rfl
    rw [e,if_pos]
    unfold keysOf
    rw [k1,decide_eq_true (Nat.le_trans k2 (Nat.le_trans (Nat.le_of_eq (Nat.zero_add _)) (Nat.le_trans hl (by decide))))]
    rfl
  have s1:execS tab (callF tab K (d+5)) K (.asg 5 (.bm .maketrans (.attr (.loc 0) 5) (.cons (.bi .fromkeys (.cons (.loc 4) .nil)) .nil))) (l15 (.val (.obj 14)) (.val (.str (m0 :: ms))) .un) (hC c0 c1 c2 c3 c4 c5 c6 c7 c8 c9 c10 text (m0 :: ms) wAll [])=.next (l15 (.val (.obj 14)) (.val (.str (m0 :: ms))) (.val (.obj 19))) (hC c0 c1 c2 c3 c4 c5 c6 c7 c8 c9 c10 text (m0 :: ms) wAll [.keys (keysOf (m0 :: ms)),.ords (ordsOf (m0 :: ms))]):=by
    refine asg_ok (bm_ok (x:=.str wAll) (i:=2) (vs:=[.obj 18]) (s1:=hC c0 c1 c2 c3 c4 c5 c6 c7 c8 c9 c10 text (m0 :: ms) wAll []) (s2:=hC c0 c1 c2 c3 c4 c5 c6 c7 c8 c9 c10 text (m0 :: ms) wAll [.keys (keysOf (m0 :: ms))]) rfl ?_ rfl ?_ rfl em) ?_<;>kernel_rfl
  have s2:execs tab (callF tab K (d+5)) K (.cons (.asgA (.loc 0) 5 (.bm .translate (.attr (.loc 0) 5) (.cons (.loc 5) .nil))) (.nil)) (l15 (.val (.obj 14)) (.val (.str (m0 :: ms))) (.val (.obj 19))) (hC c0 c1 c2 c3 c4 c5 c6 c7 c8 c9 c10 text (m0 :: ms) wAll [.keys (keysOf (m0 :: ms)),.ords (ordsOf (m0 :: ms))])=.next (l15 (.val (.obj 14)) (.val (.str (m0 :: ms))) (.val (.obj 19))) (hB c0 c1 c2 c3 c4 c5 c6 c7 c8 c9 c10 (m0 :: ms) (lx0 text (m0 :: ms) false)):=by kernel_rfl
  rw [e0,seq_next s1,s2]
  rfl
theorem initLeave {mk:List Nat} {σ:Lx}:leave 13 .none (hB c0 c1 c2 c3 c4 c5 c6 c7 c8 c9 c10 mk σ)=.ok .none (hB c0 c1 c2 c3 c4 c5 c6 c7 c8 c9 c10 mk σ):=by
  have h:aoLows 13 ((hB c0 c1 c2 c3 c4 c5 c6 c7 c8 c9 c10 mk σ).take 13)=false:=by
    show (c0.low 13&&(c1.low 13&&(c2.low 13&&(c3.low 13&&(c4.low 13&&(c5.low 13&&(c6.low 13&&(c7.low 13&&(c8.low 13&&(c9.low 13&&(c10.low 13&&false)))))))))))=false
    rw [Bool.and_false,Bool.and_false,Bool.and_false,Bool.and_false,Bool.and_false,Bool.and_false,Bool.and_false,Bool.and_false,Bool.and_false,Bool.and_false,Bool.and_false]
  show (if aoLows 13 ((hB c0 c1 c2 c3 c4 c5 c6 c7 c8 c9 c10 mk σ).take 13)=true then _ else (R.ok V.none (hB c0 c1 c2 c3 c4 c5 c6 c7 c8 c9 c10 mk σ):R V))=_
  rw [h,if_neg Bool.false_ne_true]
theorem initCall (hl:(m0 :: ms).length ≤ 1000):callF tab K (d+6) 15 [.obj 12,.str text,.none,.bool true,.str (m0 :: ms)] [c0,c1,c2,c3,c4,c5,c6,c7,c8,c9,c10,.attrs [],.inst 0 11]=.ok .none (hB c0 c1 c2 c3 c4 c5 c6 c7 c8 c9 c10 (m0 :: ms) (lx0 text (m0 :: ms) false)):=by
  have e:callF tab K (d+6) 15 [.obj 12,.str text,.none,.bool true,.str (m0 :: ms)] [c0,c1,c2,c3,c4,c5,c6,c7,c8,c9,c10,.attrs [],.inst 0 11]=endCall 13 (execs tab (callF tab K (d+5)) K b15_10 (l15 (.val (.str text)) (.val (.str (m0 :: ms))) .un) [c0,c1,c2,c3,c4,c5,c6,c7,c8,c9,c10,.attrs [],.inst 0 11]):=by kernel_rfl
  rw [e,pre_given,post hl]
  exact initLeave
end
theorem filter_has (l:List Nat) (f:Nat→Bool) (c:Nat):(l.filter f).contains c=(l.contains c&&f c):=by
  rw [Bool.eq_iff_iff,List.contains_iff_mem,List.mem_filter,Bool.and_eq_true_iff,List.contains_iff_mem]
theorem set_last {s0:List AO} {a b:AO} {n:Nat} (hn:s0.length=n):(s0++[a]).set n b=s0++[b]:=by
  rw [← hn,List.set_append_right _ _ (Nat.le_refl _),Nat.sub_self]
  rfl
theorem get_last {s0:List AO} {a:AO} {n:Nat} (hn:s0.length=n):(s0++[a])[n]?=some a:=by
  rw [← hn,List.getElem?_append_right (Nat.le_refl _),Nat.sub_self]
  rfl
theorem comp_run {s0:List AO} {src:Src} {vs:List V} {φ:V→Option V} {fB:V→List AO→R (Option V)} {n:Nat} (hn:s0.length=n) (hs:∀ (acc:List V) (j:Nat),src.at (s0++[.list acc]) j=some vs[j]?) (h0:aoLows (n+1) s0=true)
    (hB:∀ v ∈ vs,∀ acc,∃ r,fB v (s0++[.list acc])=.ok (φ v) (s0++[.list acc]++r)) (hlow:∀ v ∈ vs,∀ w,φ v=some w→w.low (n+1)=true) (hl:vs.length < lim) (m:Nat) :
    ∀ (j f:Nat) (acc:List V),j+m=vs.length→m < f→lows (n+1) acc=true→acc.length ≤ j→compTurns src n fB f j (s0++[.list acc])=.ok (.obj n) (s0++[.list (acc++(vs.drop j).filterMap φ)]):=by
  induction m with
  | zero =>
    intro j f acc hj hf ha hl2
    cases f with
    | zero=>exact absurd hf (Nat.lt_irrefl 0)
    | succ f =>
      have hj:j=vs.length:=hj
      show R.opt (src.at (s0++[.list acc]) j) _=_
      rw [hs,List.getElem?_eq_none (Nat.le_of_eq hj.symm),List.drop_eq_nil_of_le (Nat.le_of_eq hj.symm),show ([]:List V).filterMap φ=[] from rfl,List.append_nil]
      rfl
  | succ m ih =>
    intro j f acc hj hf ha hl2
    cases f with
    | zero=>exact absurd hf (Nat.not_lt_zero _)
    | succ f =>
      have hlt:j < vs.length:=hj ▸ Nat.lt_add_of_pos_right (Nat.succ_pos m)
      have hm:=List.getElem_mem hlt
      show R.opt (src.at (s0++[.list acc]) j) _=_
      rw [hs,List.getElem?_eq_getElem hlt,List.drop_eq_getElem_cons hlt]
      show (fB vs[j] (s0++[.list acc])).only _=_
      obtain ⟨r,hr⟩:=hB _ hm acc
      rw [hr]
      have hlen:(s0++[AO.list acc]).length=n+1:=by rw [List.length_append,hn]; rfl
      have hlow':aoLows (n+1) ((s0++[AO.list acc]++r).take (n+1))=true:=by
        rw [← hlen,List.take_append_of_le_length (Nat.le_refl _),List.take_length,hlen,aoLows_app,h0]
        show (true&&(lows (n+1) acc&&true))=true
        rw [ha]
        rfl
      have hj':j+1+m=vs.length:=(Nat.succ_add_eq_add_succ j m).trans hj
      show R.opt (compStep n (φ vs[j]) (s0++[.list acc]++r)) _=_
      have e0:((s0++[AO.list acc]++r)[n]?.bind AO.list?)=some acc:=by rw [List.getElem?_append_left (by rw [hlen]; exact Nat.lt_succ_self n),get_last hn]; rfl
      have et:(s0++[AO.list acc]++r).take (n+1)=s0++[AO.list acc]:=by rw [← hlen,List.take_append_of_le_length (Nat.le_refl _),List.take_length]
      cases hφ:φ vs[j] with
      | none =>
        have e:compStep n none (s0++[.list acc]++r)=some (s0++[.list acc]):=by
          unfold compStep
          rw [e0]
          show (if aoLows (n+1) ((s0++[AO.list acc]++r).take (n+1))=true then _ else _)=_
          rw [if_pos hlow',et]
        rw [e,List.filterMap_cons_none hφ]
        exact ih (j+1) f acc hj' (Nat.lt_of_succ_lt_succ hf) ha (Nat.le_succ_of_le hl2)
      | some w =>
        have hw:=hlow _ hm w hφ
        have e:compStep n (some w) (s0++[.list acc]++r)=some (s0++[.list (acc++[w])]):=by
          unfold compStep
          rw [e0]
          show (if (w.low (n+1)&&aoLows (n+1) ((s0++[AO.list acc]++r).take (n+1))&&decide (acc.length+1 ≤ lim))=true then _ else _)=_
          rw [hw,hlow',decide_eq_true (Nat.le_of_lt (Nat.lt_of_le_of_lt (Nat.succ_le_of_lt (Nat.lt_of_le_of_lt hl2 hlt)) hl)),if_pos (show (true&&true&&true)=true from rfl),et,set_last hn]
        rw [e,List.filterMap_cons_some hφ]
        have:=ih (j+1) f (acc++[w]) hj' (Nat.lt_of_succ_lt_succ hf) (by rw [lows_app,ha]; show (true&&(V.low (n+1) w&&true))=true; rw [hw]; rfl) (by rw [List.length_append]; exact Nat.succ_le_succ hl2)
        rw [List.append_assoc] at this
        exact this
theorem strs_chars (l:List Nat):strsOf (chars l)=some (l.map fun c=>[c]):=by
  induction l with
  | nil=>rfl
  | cons a l ih =>
    show (strsOf (chars l)).map _=_
    rw [ih]
    rfl
theorem flat_chars (l:List Nat):(l.map fun c=>[c]).flatten=l:=by
  induction l with
  | nil=>rfl
  | cons a l ih=>exact congrArg (a :: ·) ih
theorem join_ok {s:List AO} {l:List Nat} {i:Nat} (h:s[i]?=some (.list (chars l))) (hl:l.length ≤ lim):bmOp s .join (.str []) [.obj i]=.ok (.str l) s:=by
  show R.opt (s[i]?.bind AO.list?) _=_
  rw [h]
  show R.opt (strsOf (chars l)) _=_
  rw [strs_chars]
  show (if (l.map fun c=>[c]).flatten.length ≤ lim then (R.ok (V.str (l.map fun c=>[c]).flatten) s:R V) else .fail)=_
  rw [flat_chars,if_pos hl]
section
variable {K d:Nat} {cf:Nat→List V→List AO→R V} {L:List LV} {s s':List AO} {it:Ex} {v:V} {src:Src} {ns:List Nat} {S:List Nat} {c cc n:Nat}
theorem ints_cut {l:List Nat} {a b:Nat}:((intsV l).take b).drop a=intsV ((l.take b).drop a):=by
  unfold intsV
  rw [List.map_drop,List.map_take]
theorem cutL {q a b:Nat} {l:List Nat} (h:s[q]?=some (.list (intsV l))) (ha:a < 2 ^ 59) (hb:b < 2 ^ 59):sliceOp s (.obj q) (.int (a:Int)) (.int (b:Int))=.ok (.obj s.length) (s++[.list (intsV ((l.take b).drop a))]):=by
  show R.opt (s[q]?.bind AO.list?) (fun vs=>cutList s vs (.int (a:Int)) (.int (b:Int)))=_
  rw [h]
  show R.opt (bound (intsV l).length 0 (.int (a:Int))) (fun p=>R.opt (bound (intsV l).length (intsV l).length (.int (b:Int))) fun q=>(R.ok (V.obj s.length) (s++[.list (((intsV l).take q).drop p)]):R V))=_
  rw [bndM ha,bndM hb]
  show (R.ok (V.obj s.length) (s++[.list (((intsV l).take (min b (intsV l).length)).drop (min a (intsV l).length))]):R V)=_
  rw [cut_min,ints_cut]
theorem cutL0 {q b:Nat} {l:List Nat} (h:s[q]?=some (.list (intsV l))) (hb:b < 2 ^ 59):sliceOp s (.obj q) .none (.int (b:Int))=.ok (.obj s.length) (s++[.list (intsV (l.take b))]):=by
  have:=cutL (a:=0) h (by decide) hb
  rw [List.drop_zero] at this
  rw [← this]
  show R.opt (s[q]?.bind AO.list?) _=R.opt (s[q]?.bind AO.list?) _
  rw [h]
  rfl
theorem cutLe {q a:Nat} {l:List Nat} (h:s[q]?=some (.list (intsV l))) (ha:a < 2 ^ 59):sliceOp s (.obj q) (.int (a:Int)) .none=.ok (.obj s.length) (s++[.list (intsV (l.drop a))]):=by
  show R.opt (s[q]?.bind AO.list?) (fun vs=>cutList s vs (.int (a:Int)) .none)=_
  rw [h]
  show R.opt (bound (intsV l).length 0 (.int (a:Int))) (fun p=>(R.ok (V.obj s.length) (s++[.list (((intsV l).take (intsV l).length).drop p)]):R V))=_
  rw [bndM ha,List.take_length]
  show (R.ok (V.obj s.length) (s++[.list ((intsV l).drop (min a (intsV l).length))]):R V)=_
  have e:(intsV l).drop (min a (intsV l).length)=(intsV l).drop a:=by
    rcases Nat.le_total a (intsV l).length with h | h
    · rw [Nat.min_eq_left h]
    · rw [Nat.min_eq_right h,List.drop_length,List.drop_eq_nil_of_le h]
  rw [e,← List.map_drop]
noncomputable abbrev ixX:Ex:=.idx (.loc 2) (.bin .mod (.loc 1) (.lit (.int 8)))
noncomputable abbrev ixB (cf:Nat→List V→List AO→R V) (K c:Nat):V→List AO→R (Option V):=fun v s=>(setLoc [.un,.un,.cel c] s 1 v).run fun l'' s=>(condsE tab cf K l'' .nil s).bind fun b s=>if b then (evalE tab cf K l'' false ixX s).bind fun v s=>.ok (some v) s else .ok none s
noncomputable def ixF (S:List Nat) (v:V):Option V:=v.int?.map fun i=>V.str [S.getD (i.toNat % 8) 0]
theorem ixB_eval (hc:s[c]?=some (.cell (some (.str S)))) (hS:S.length=8):ixB cf K c (.int (n:Int)) s=.ok (ixF S (.int (n:Int))) s:=by
  have hn:n % 8 < S.length:=by rw [hS]; exact Nat.mod_lt _ (by decide)
  have ec:evalE tab cf K [.un,.val (.int (n:Int)),.cel c] false ixX s=.ok (.str [S.getD (n % 8) 0]) s:=idx_ok (loc_cel rfl hc) (bin_ok (r:=.ok (.int ((n % 8:Nat):Int)) s) (loc_val rfl) lit_ok rfl) (idx_str (by rw [List.getD_eq_getElem?_getD,List.getElem?_eq_getElem hn]; rfl))
  show (evalE tab cf K [.un,.val (.int (n:Int)),.cel c] false ixX s).bind _=_
  rw [ec]
  rfl
theorem ix_map:(intsV ns).filterMap (ixF S)=chars (ns.map fun n=>S.getD (n % 8) 0):=by
  induction ns with
  | nil=>rfl
  | cons a r ih=>exact congrArg (V.str [S.getD (a % 8) 0] :: ·) ih
theorem comp_idx (hL:compLoc L [none,none,some cc]=some [.un,.un,.cel c]) (hit:evalE tab cf K L false it s=.ok v s') (hsrc:srcOf s' v=some src) (hs:∀ (acc:List V) (j:Nat),src.at (s'++[.list acc]) j=some (intsV ns)[j]?)
    (hc:s'[c]?=some (.cell (some (.str S)))) (hS:S.length=8) (hlow:aoLows (s'.length+1) s'=true) (hK:ns.length < K) (hl:ns.length ≤ 1000) :
    evalE tab cf K L false (.bm .join (.lit (.str [])) (.cons (.comp it [none,none,some cc] 1 .nil ixX) .nil)) s=.ok (.str (ns.map fun n=>S.getD (n % 8) 0)) (s'++[.list (chars (ns.map fun n=>S.getD (n % 8) 0))]):=by
  have hlt:(intsV ns).length < lim:=by rw [List.length_map]; exact Nat.lt_of_le_of_lt hl (by decide)
  have hrun:compTurns src s'.length (ixB cf K c) K 0 (s'++[.list []])=.ok (.obj s'.length) (s'++[.list ([]++((intsV ns).drop 0).filterMap (ixF S))]) :=
    comp_run (s0:=s') (src:=src) (vs:=intsV ns) (φ:=ixF S) rfl hs hlow (fun v m acc=>by
      obtain ⟨n,mn,e⟩:=List.mem_map.mp m
      refine ⟨[],?_⟩
      rw [← e,List.append_nil]
      exact ixB_eval (by rw [List.getElem?_append_left (List.getElem?_eq_some_iff.mp hc).1]; exact hc) hS) (fun v m w e=>by
      obtain ⟨n,mn,e2⟩:=List.mem_map.mp m
      rw [← e2] at e
      rw [← Option.some.inj e]
      rfl) hlt (intsV ns).length 0 K [] (Nat.zero_add _) (by rw [List.length_map]; exact hK) rfl (Nat.le_refl 0)
  rw [List.nil_append,List.drop_zero,ix_map] at hrun
  have ec:evalE tab cf K L false (.comp it [none,none,some cc] 1 .nil ixX) s=.ok (.obj s'.length) (s'++[.list (chars (ns.map fun n=>S.getD (n % 8) 0))]):=by
    show R.opt (compLoc L [none,none,some cc]) _=_
    rw [hL]
    show (evalE tab cf K L false it s).bind _=_
    rw [hit]
    show R.opt (srcOf s' v) _=_
    rw [hsrc]
    exact hrun
  exact bm_ok rfl lit_ok rfl (es1 ec) rfl (join_ok end_at (by rw [List.length_map]; exact Nat.le_trans hl (by decide)))
noncomputable abbrev signs8:List Nat:=[117,118,119,120,121,122,10,43]
noncomputable abbrev roX (es:Exs):Ex:=.cmp .in_ (.idx (.loc 2) (.loc 1)) (.list es)
noncomputable abbrev roB (es:Exs) (cf:Nat→List V→List AO→R V) (K c:Nat):V→List AO→R (Option V):=fun v s=>(setLoc [.un,.un,.cel c] s 1 v).run fun l'' s=>(condsE tab cf K l'' (.cons (roX es) .nil) s).bind fun b s=>if b then (evalE tab cf K l'' false (.loc 1) s).bind fun v s=>.ok (some v) s else .ok none s
noncomputable def roF (ro:Nat→Nat) (S:List Nat) (v:V):Option V:=v.chr?.bind fun x=>if S.contains (ro x)=true then some (.str [x]) else none
variable {ro:Nat→Nat} {RL:List (List Nat × V)} {es:Exs}
theorem roB_eval (hc:s[1]?=some (.cell (some (.obj 6)))) (h6:s[6]?=some (.dict RL)) (hr:lookS [n] RL=some (.int (ro n:Int))) (hes:∀ L s,evalEs tab cf K L es s=.ok (intsV S) s) (hS:S.length ≤ 100):roB es cf K 1 (.str [n]) s=.ok (roF ro S (.str [n])) (s++[.list (intsV S)]):=by
  have ei:idxOp s (.obj 6) (.str [n])=.ok (.int (ro n:Int)) s:=by
    show R.opt ((s[6]?).bind AO.dict?) (fun l=>R.opt (lookS [n] l) fun v=>(R.ok v s:R V))=_
    rw [h6]
    show R.opt (lookS [n] RL) _=_
    rw [hr]
    rfl
  have ec:evalE tab cf K [.un,.val (.str [n]),.cel 1] true (roX es) s=.ok (.bool (S.contains (ro n))) (s++[.list (intsV S)]):=in_list (idx_ok (loc_cel rfl hc) (loc_val rfl) ei) (hes _ _) hS
  show ((evalE tab cf K [.un,.val (.str [n]),.cel 1] true (roX es) s).bind fun v s=>match v with
    | .bool true=>condsE tab cf K [.un,.val (.str [n]),.cel 1] .nil s
    | .bool false=>.ok false s
    | _=>.fail).bind _=_
  rw [ec]
  have e0:roF ro S (.str [n])=if S.contains (ro n)=true then some (.str [n]) else none:=rfl
  rw [e0]
  cases S.contains (ro n)<;>rfl
theorem ro_map {l:List Nat}:(chars l).filterMap (roF ro S)=chars (l.filter fun x=>S.contains (ro x)):=by
  induction l with
  | nil=>rfl
  | cons a r ih =>
    have e0:roF ro S (.str [a])=if S.contains (ro a)=true then some (.str [a]) else none:=rfl
    show (V.str [a] :: chars r).filterMap (roF ro S)=_
    cases h:S.contains (ro a) with
    | true=>rw [List.filterMap_cons_some (b:=.str [a]) (by rw [e0,h]; rfl),List.filter_cons_of_pos (p:=fun x=>S.contains (ro x)) h,ih]; rfl
    | false=>rw [List.filterMap_cons_none (by rw [e0,h]; rfl),List.filter_cons_of_neg (p:=fun x=>S.contains (ro x)) (ff h),ih]
noncomputable abbrev flt (ro:Nat→Nat) (S:List Nat):List Nat:=signs8.filter fun x=>S.contains (ro x)
theorem comp_ro (hL:compLoc L [none,none,some 4]=some [.un,.un,.cel 1]) (hit:evalE tab cf K L false (.loc 3) s=.ok (.str signs8) s) (hc:s[1]?=some (.cell (some (.obj 6)))) (h6:s[6]?=some (.dict RL)) (hr:∀ n ∈ signs8,lookS [n] RL=some (.int (ro n:Int))) (hlow:aoLows (s.length+1) s=true) (hK:8 < K)
    (hes:∀ L s,evalEs tab cf K L es s=.ok (intsV S) s) (hS:S.length ≤ 100) :
    evalE tab cf K L false (.bm .join (.lit (.str [])) (.cons (.comp (.loc 3) [none,none,some 4] 1 (.cons (roX es) .nil) (.loc 1)) .nil)) s=.ok (.str (flt ro S)) (s++[.list (chars (flt ro S))]):=by
  have hrun:compTurns (.fixed (chars signs8)) s.length (roB es cf K 1) K 0 (s++[.list []])=.ok (.obj s.length) (s++[.list ([]++((chars signs8).drop 0).filterMap (roF ro S))]) :=
    comp_run (s0:=s) (vs:=chars signs8) (φ:=roF ro S) rfl (fun _ _=>rfl) hlow (fun v m acc=>by
      obtain ⟨n,mn,e⟩:=List.mem_map.mp m
      refine ⟨[.list (intsV S)],?_⟩
      rw [← e]
      exact roB_eval (by rw [List.getElem?_append_left (List.getElem?_eq_some_iff.mp hc).1]; exact hc) (by rw [List.getElem?_append_left (List.getElem?_eq_some_iff.mp h6).1]; exact h6) (hr n mn) hes hS) (fun v m w e=>by
      obtain ⟨n,mn,e2⟩:=List.mem_map.mp m
      rw [← e2] at e
      have e0:roF ro S (.str [n])=if S.contains (ro n)=true then some (.str [n]) else none:=rfl
      rw [e0] at e
      cases h:S.contains (ro n) with
      | true=>rw [h] at e; rw [← Option.some.inj e]; rfl
      | false=>rw [h] at e; exact nomatch e) (by decide) 8 0 K [] rfl hK rfl (Nat.le_refl 0)
  rw [List.nil_append,List.drop_zero,ro_map] at hrun
  have ec:evalE tab cf K L false (.comp (.loc 3) [none,none,some 4] 1 (.cons (roX es) .nil) (.loc 1)) s=.ok (.obj s.length) (s++[.list (chars (flt ro S))]):=by
    show R.opt (compLoc L [none,none,some 4]) _=_
    rw [hL]
    show (evalE tab cf K L false (.loc 3) s).bind _=_
    rw [hit]
    exact hrun
  exact bm_ok rfl lit_ok rfl (es1 ec) rfl (join_ok end_at (Nat.le_trans (List.length_filter_le _ _) (by decide)))
end
structure H8 where
  (h0 h1 h2 h3 h4 h5 h6 h7:Nat)
structure H8.Ok (h:H8):Prop where
  (l0:h.h0 < 16) (l1:h.h1 < 16) (l2:h.h2 < 16) (l3:h.h3 < 16) (l4:h.h4 < 16) (l5:h.h5 < 16) (l6:h.h6 < 16)
noncomputable abbrev H8.l (h:H8):List Nat:=[h.h0,h.h1,h.h2,h.h3,h.h4,h.h5,h.h6,h.h7]
theorem h8_of {l:List Nat} (h:∀ n ∈ l,n < 16):∃ H:H8,H.Ok∧(l++[0,0,0,0,0,0,0,0]).take 8=H.l:=by
  have hall:∀ n ∈ (l++[0,0,0,0,0,0,0,0]).take 8,n < 16:=fun n m=>by
    rcases List.mem_append.mp (List.mem_of_mem_take m) with m | m
    · exact h n m
    · exact (by decide:∀ n ∈ ([0,0,0,0,0,0,0,0]:List Nat),n < 16) n m
  have hlen:((l++[0,0,0,0,0,0,0,0]).take 8).length=8:=by
    rw [List.length_take,List.length_append]
    exact Nat.min_eq_left (Nat.le_add_left _ _)
  generalize (l++[0,0,0,0,0,0,0,0]).take 8=x at hall hlen
  match x,hall,hlen with
  | [a,b,c,d,e,f,g,i],hall,_=>exact ⟨⟨a,b,c,d,e,f,g,i⟩,⟨hall _ (.head _),hall _ (.tail _ (.head _)),hall _ (.tail _ (.tail _ (.head _))),hall _ (.tail _ (.tail _ (.tail _ (.head _)))),hall _ (.tail _ (.tail _ (.tail _ (.tail _ (.head _))))),hall _ (.tail _ (.tail _ (.tail _ (.tail _ (.tail _ (.head _)))))),hall _ (.tail _ (.tail _ (.tail _ (.tail _ (.tail _ (.tail _ (.head _))))))) ⟩,rfl⟩
noncomputable def H8.ro (h:H8) (c:Nat):Nat:=if (c == 117)=true then h.h0 else if (c == 118)=true then h.h1 else if (c == 119)=true then h.h2 else if (c == 120)=true then h.h3 else if (c == 121)=true then h.h4 else if (c == 122)=true then h.h5 else if (c == 10)=true then h.h6 else 2
theorem H8.Ok.ro {h:H8} (k:h.Ok) (c:Nat):h.ro c < 16:=by
  unfold H8.ro
  repeat' split
  · exact k.l0
  · exact k.l1
  · exact k.l2
  · exact k.l3
  · exact k.l4
  · exact k.l5
  · exact k.l6
  · decide
noncomputable abbrev iv (n:Nat):V:=.int (n:Int)
noncomputable abbrev RLo (h:H8):List (List Nat × V):=[([43],iv 2),([117],iv h.h0),([118],iv h.h1),([119],iv h.h2),([120],iv h.h3),([121],iv h.h4),([122],iv h.h5),([10],iv h.h6)]
theorem all8 {p:Nat→Prop} (a:p 117) (b:p 118) (c:p 119) (d:p 120) (e:p 121) (f:p 122) (g:p 10) (i:p 43):∀ x ∈ signs8,p x:=by
  intro x m
  rcases List.mem_cons.mp m with e | m; · rw [e]; exact a
  rcases List.mem_cons.mp m with e | m; · rw [e]; exact b
  rcases List.mem_cons.mp m with e | m; · rw [e]; exact c
  rcases List.mem_cons.mp m with e | m; · rw [e]; exact d
  rcases List.mem_cons.mp m with e' | m; · rw [e']; exact e
  rcases List.mem_cons.mp m with e | m; · rw [e]; exact f
  rcases List.mem_cons.mp m with e | m; · rw [e]; exact g
  rw [List.mem_singleton.mp m]; exact i
theorem look_ro {h:H8}:∀ c ∈ signs8,lookS [c] (RLo h)=some (.int (h.ro c:Int)):=all8 rfl rfl rfl rfl rfl rfl rfl rfl
noncomputable def ouf (r:Nat) (w x:Bool):Nat:=if (w || ([3,14]:List Nat).contains r)=true then 3 else if x=true then 4 else r
noncomputable def H8.ou (h:H8) (W X:List Nat) (c:Nat):Nat:=ouf (h.ro c) (W.contains c) (X.contains c)
noncomputable abbrev OLo (h:H8) (W X:List Nat):List (List Nat × V):=signs8.map fun c=>([c],iv (h.ou W X c))
theorem look_ou {h:H8} {W X:List Nat}:∀ c ∈ signs8,lookS [c] (OLo h W X)=some (.int (h.ou W X c:Int)):=all8 rfl rfl rfl rfl rfl rfl rfl rfl
theorem put_put (a:List Nat) (v w:V) (l:List (List Nat × V)):putS a v (putS a w l)=putS a v l:=by
  induction l with
  | nil =>
    show (if (a == a)=true then _ else _)=_
    rw [if_pos (beq_self_eq_true a)]; rfl
  | cons x r ih =>
    obtain ⟨b,y⟩:=x
    show putS a v (if (a == b)=true then (b,w) :: r else (b,y) :: putS a w r)=if (a == b)=true then (b,v) :: r else (b,y) :: putS a v r
    by_cases h:(a == b)=true
    · rw [if_pos h,if_pos h]
      show (if (a == b)=true then (b,v) :: r else _)=_
      rw [if_pos h]
    · rw [if_neg h,if_neg h]
      show (if (a == b)=true then _ else (b,y) :: putS a v (putS a w r))=_
      rw [if_neg h,ih]
theorem put_len (a:List Nat) (v:V) (l:List (List Nat × V)):(putS a v l).length ≤ l.length+1:=by
  induction l with
  | nil=>exact Nat.le_refl 1
  | cons x r ih =>
    obtain ⟨b,y⟩:=x
    show (if (a == b)=true then (b,v) :: r else (b,y) :: putS a v r).length ≤ _
    split
    · exact Nat.le_succ _
    · exact Nat.succ_le_succ ih
noncomputable abbrev putO (h:H8) (W X:List Nat) (l:List (List Nat × V)) (c:Nat):List (List Nat × V):=putS [c] (iv (h.ou W X c)) l
set_option synthInstance.maxSize 4000 in
set_option synthInstance.maxHeartbeats 400000 in
theorem sg_all:∀ r < 16,∀ w x sp:Bool,ouf r w x < 16 ∧
    ((tb2.getD (ouf r w x) 0 == 46 || (tb2.getD (ouf r w x) 0 == 111&&!sp))=((([3,14]:List Nat).contains r || w) || ((([4,15]:List Nat).contains r || x) || (!([5,6,9,10,12]:List Nat).contains r&&(!([7,11,13]:List Nat).contains r&&!(([1,8,12,13]:List Nat).contains r || (([5,6,9,10,12]:List Nat).contains r || (sp&&!([2,8,9,10,11,14,15]:List Nat).contains r)))))))) ∧
    ((tb2.getD (ouf r w x) 0 == 101)=(!(([3,14]:List Nat).contains r || w)&&(!(([4,15]:List Nat).contains r || x)&&(!([5,6,9,10,12]:List Nat).contains r&&([7,11,13]:List Nat).contains r)))) ∧
    ((tb2.getD (ouf r w x) 0 == 113)=(!(([3,14]:List Nat).contains r || w)&&(!(([4,15]:List Nat).contains r || x)&&([5,6,9,10,12]:List Nat).contains r))) ∧
    ((tb1.getD (ouf r w x) 0 == 104)=(!(([3,14]:List Nat).contains r || w)&&(([4,15]:List Nat).contains r || x))) ∧
    ((tb1.getD (ouf r w x) 0 == 98)=(([3,14]:List Nat).contains r || w)) ∧
    ((tb1.getD (ouf r w x) 0 == 114)=(!(([3,14]:List Nat).contains r || w)&&(!(([4,15]:List Nat).contains r || x)&&(!([7,11,13]:List Nat).contains r&&(!([1,8,12,13]:List Nat).contains r&&([2,8,9,10,11,14,15]:List Nat).contains r))))) ∧
    ((tb1.getD (ouf r w x) 0 == 111)=(!(([3,14]:List Nat).contains r || w)&&(!(([4,15]:List Nat).contains r || x)&&(!([7,11,13]:List Nat).contains r&&(!([1,8,12,13]:List Nat).contains r&&(!([2,8,9,10,11,14,15]:List Nat).contains r&&!([5,6,9,10,12]:List Nat).contains r)))))) ∧
    (([108,111]:List Nat).contains (tb1.getD (ouf r w x) 0)=(!(([3,14]:List Nat).contains r || w)&&(!(([4,15]:List Nat).contains r || x)&&(!([7,11,13]:List Nat).contains r&&(([1,8,12,13]:List Nat).contains r || (!([2,8,9,10,11,14,15]:List Nat).contains r&&!([5,6,9,10,12]:List Nat).contains r)))))) ∧
    (([2,8,9,10,11]:List Nat).contains (ouf r w x)=(!(([3,14]:List Nat).contains r || w)&&(!(([4,15]:List Nat).contains r || x)&&([2,8,9,10,11,14,15]:List Nat).contains r))) ∧
    (([7,11,13]:List Nat).contains r=true→([5,6,9,10,12]:List Nat).contains r=false):=by decide +kernel
noncomputable abbrev par2 (h:H8) (W X:List Nat) (sp:Bool):Par:=⟨flt h.ro [4,15]++X,flt h.ro [1,8,12,13],flt h.ro [3,14]++W,sp,flt h.ro [5,6,9,10,12],flt h.ro [7,11,13],flt h.ro [6,10],flt h.ro [2,8,9,10,11,14,15]⟩
section
variable {h:H8} {W X:List Nat} {sp:Bool} {c:Nat} {S:List Nat}
theorem flt_has (hc:c ∈ signs8):(flt h.ro S).contains c=S.contains (h.ro c):=by
  rw [filter_has,List.contains_iff_mem.mpr hc,Bool.true_and]
theorem app_has {a b:List Nat}:(a++b).contains c=(a.contains c || b.contains c):=by
  rw [Bool.eq_iff_iff,List.contains_iff_mem,List.mem_append,Bool.or_eq_true_iff,List.contains_iff_mem,List.contains_iff_mem]
theorem flt_no (hc:signs8.contains c=false):(flt h.ro S).contains c=false:=by
  rw [filter_has,hc,Bool.false_and]
theorem sg_of (k:h.Ok) (hc:c ∈ signs8):Sg (par2 h W X sp) h.ro (h.ou W X) c:=by
  obtain ⟨h1,h2,h3,h4,h5,h6,h7,h8,h9,h10,h11⟩:=sg_all (h.ro c) (k.ro c) (W.contains c) (X.contains c) sp
  have e1:(par2 h W X sp).ws.contains c=(([3,14]:List Nat).contains (h.ro c) || W.contains c):=by rw [app_has,flt_has hc]
  have e2:(par2 h W X sp).cm.contains c=(([4,15]:List Nat).contains (h.ro c) || X.contains c):=by rw [app_has,flt_has hc]
  have e3:(par2 h W X sp).qs.contains c=([5,6,9,10,12]:List Nat).contains (h.ro c):=flt_has hc
  have e4:(par2 h W X sp).es.contains c=([7,11,13]:List Nat).contains (h.ro c):=flt_has hc
  have e5:(par2 h W X sp).wc.contains c=([1,8,12,13]:List Nat).contains (h.ro c):=flt_has hc
  have e6:(par2 h W X sp).pu.contains c=([2,8,9,10,11,14,15]:List Nat).contains (h.ro c):=flt_has hc
  rw [← e1,← e2,← e3,← e4,← e5,← e6] at h2
  rw [← e1,← e2,← e3,← e4] at h3
  rw [← e1,← e2,← e3] at h4
  rw [← e1,← e2] at h5
  rw [← e1] at h6
  rw [← e1,← e2,← e4,← e5,← e6] at h7
  rw [← e1,← e2,← e3,← e4,← e5,← e6] at h8 h9
  rw [← e1,← e2,← e6] at h10
  rw [← e3,← e4] at h11
  exact ⟨h1,h2,h3,h4,h5,h6,h7,h8,h9,h10,⟨e4,flt_has hc⟩,h11,fun e=>by rw [e] at hc; exact (by decide:97 ∉ signs8) hc⟩
theorem eq_dis (k:h.Ok):∀ c,(flt h.ro [7,11,13]).contains c=true→(flt h.ro [5,6,9,10,12]).contains c=false:=fun c hx=>by
  cases hc:signs8.contains c with
  | false=>exact flt_no hc
  | true =>
    have hc:=List.contains_iff_mem.mp hc
    rw [flt_has hc] at hx ⊢
    obtain ⟨_,_,_,_,_,_,_,_,_,_,h11⟩:=sg_all (h.ro c) (k.ro c) false false false
    exact h11 hx
theorem mk_cons:∃ m ms,flt h.ro [2,8,9,10,11,14,15]=m :: ms:=by
  have hm:(43:Nat) ∈ flt h.ro [2,8,9,10,11,14,15]:=List.contains_iff_mem.mp ((flt_has (by decide)).trans rfl)
  cases e:flt h.ro [2,8,9,10,11,14,15] with
  | nil=>rw [e] at hm; exact nomatch hm
  | cons m ms=>exact ⟨m,ms,rfl⟩
end
theorem lows_iis (n:Nat) (is:List Int):lows n (is.map V.int)=true:=by
  induction is with
  | nil=>rfl
  | cons a l ih=>exact ih
noncomputable abbrev cs (S:List Nat):AO:=.cell (some (.str S))
noncomputable abbrev li (l:List Nat):AO:=.list (intsV l)
noncomputable abbrev lc (l:List Nat):AO:=.list (chars l)
noncomputable abbrev z8:List Nat:=[0,0,0,0,0,0,0,0]
noncomputable abbrev tw (c1 c2:Nat) (b1 b2:Bool):List Nat:=(if b1=true then [c1] else [])++(if b2=true then [c2] else [])
noncomputable abbrev c6:AO:=.cell (some (.obj 6))
section
variable {l:List Nat} {K d c c1 c2 n:Nat} {is:List Int} {H:H8} {W X:List Nat} {sp b1 b2:Bool} {cf:Nat→List V→List AO→R V} {L:List LV} {s s1 s2 r:List AO} {a b e:Ex} {OL:List (List Nat × V)} {v:V}
noncomputable abbrev M5 (l:List Nat) (H:H8) (D:List (List Nat × V)):List AO:=[cs signs8,c6,li l,li z8,li (l++z8),li H.l,.dict D]
noncomputable abbrev M9 (l:List Nat) (H:H8) (OL:List (List Nat × V)):List AO:=[cs signs8,c6,li l,li z8,li (l++z8),li H.l,.dict (RLo H),.dict OL]
noncomputable def lg (is:List Int) (a1 a2 a5 a6 a7 a8 a9 a10 a11 a12 a13 a14 a15 a16:LV):List LV:=[.val (.lst (is.map .int)),a1,a2,.cel 0,.cel 1,a5,a6,a7,a8,a9,a10,a11,a12,a13,a14,a15,a16,.un,.un,.un,.un,.un,.un,.un,.un,.un]
theorem ife_str (h:evalE tab cf K L true a s=.ok (.bool b1) s):evalE tab cf K L false (.ife a (.lit (.str [c])) (.lit (.str []))) s=.ok (.str (if b1=true then [c] else [])) s:=by
  cases b1 with
  | true=>exact (ife_t h).trans lit_ok
  | false=>exact (ife_f h).trans lit_ok
theorem two_str (h1:evalE tab cf K L true a s=.ok (.bool b1) s) (h2:evalE tab cf K L true b s=.ok (.bool b2) s):evalE tab cf K L false (.bin .add (.ife a (.lit (.str [c1])) (.lit (.str []))) (.ife b (.lit (.str [c2])) (.lit (.str [])))) s=.ok (.str (tw c1 c2 b1 b2)) s :=
  bin_ok (ife_str h1) (ife_str h2) (addStr (Nat.le_trans (m:=2) (by cases b1<;>cases b2<;>exact Nat.le_of_ble_eq_true rfl) (by decide)))
theorem tw_len:(tw c1 c2 b1 b2).length ≤ 2:=by cases b1<;>cases b2<;>exact Nat.le_of_ble_eq_true rfl
theorem or_t (h1:evalE tab cf K L true a s=.ok (.bool true) s1):evalE tab cf K L true (.boolop false (.cons a (.cons b .nil))) s=.ok (.bool true) s1:=by
  show (evalE tab cf K L true a s).bool _=_
  rw [h1]; rfl
theorem or_f {q:Bool} (h1:evalE tab cf K L true a s=.ok (.bool false) s1) (h2:evalE tab cf K L true b s1=.ok (.bool q) s2):evalE tab cf K L true (.boolop false (.cons a (.cons b .nil))) s=.ok (.bool q) s2:=by
  show (evalE tab cf K L true a s).bool _=_
  rw [h1]
  show (evalE tab cf K L true b s1).bool _=_
  rw [h2]
  cases q<;>rfl
theorem store9 (h:evalE tab cf K L false e (M9 l H OL++r)=.ok v (M9 l H OL++r)) (h9:L[9]?=some (.val (.obj 7))) (h10:L[10]?=some (.val (.str [c]))) (hO:OL.length < 100):execS tab cf K (.asgI (.loc 9) (.loc 10) e) L (M9 l H OL++r)=.next L (M9 l H (putS [c] v OL)++r):=by
  show (evalE tab cf K L false e (M9 l H OL++r)).st L _=_
  rw [h]
  show (evalE tab cf K L false (.loc 9) (M9 l H OL++r)).st L _=_
  rw [loc_val h9]
  show (evalE tab cf K L false (.loc 10) (M9 l H OL++r)).st L _=_
  rw [loc_val h10]
  show (if OL.length < 100 then RS.next L ((M9 l H OL++r).set 7 (.dict (putS [c] v OL))) else .fail)=_
  rw [if_pos hO]; rfl
noncomputable abbrev lo (is:List Int) (sp:Bool) (W X:List Nat) (a10:LV):List LV:=lg is (.val (.obj 2)) (.val (.obj 5)) (.val (.int 6)) (.val (.bool sp)) (sv W) (sv X) (.val (.obj 7)) a10 .un .un .un .un .un .un
theorem out_turn (hc:c ∈ signs8) (hO:OL.length < 90):∃ r,execs tab cf K b14_4 (lo is sp W X (sv [c])) (M9 l H OL)=.next (lo is sp W X (sv [c])) (M9 l H (putO H W X OL c)++r):=by
  have er:∀ (OL:List (List Nat × V)),evalE tab cf K (lo is sp W X (sv [c])) false (.idx (.loc 4) (.loc 10)) (M9 l H OL)=.ok (iv (H.ro c)) (M9 l H OL):=fun OL =>
    idx_ok (loc_cel rfl rfl) (loc_val rfl) (by show R.opt (lookS [c] (RLo H)) _=_; rw [look_ro c hc]; rfl)
  have hO1:(putS [c] (iv (H.ro c)) OL).length < 100:=Nat.lt_of_le_of_lt (put_len _ _ _) (Nat.lt_of_lt_of_le (Nat.succ_lt_succ hO) (by decide))
  have t1:execS tab cf K (.asgI (.loc 9) (.loc 10) (.idx (.loc 4) (.loc 10))) (lo is sp W X (sv [c])) (M9 l H OL)=.next (lo is sp W X (sv [c])) (M9 l H (putS [c] (iv (H.ro c)) OL)):=by
    have:=store9 (r:=[]) (K:=K) (cf:=cf) (l:=l) (H:=H) (OL:=OL) (c:=c) (v:=iv (H.ro c)) (L:=lo is sp W X (sv [c])) (e:=.idx (.loc 4) (.loc 10)) (by rw [List.append_nil]; exact er OL) rfl rfl (Nat.lt_trans hO (by decide))
    rw [List.append_nil,List.append_nil] at this
    exact this
  have e1:evalE tab cf K (lo is sp W X (sv [c])) true (.cmp .in_ (.loc 10) (.loc 7)) (M9 l H (putS [c] (iv (H.ro c)) OL))=.ok (.bool (W.contains c)) (M9 l H (putS [c] (iv (H.ro c)) OL)):=cmp_ok (loc_val rfl) (loc_val rfl) rfl
  have e2:evalE tab cf K (lo is sp W X (sv [c])) true (.cmp .in_ (.idx (.loc 4) (.loc 10)) (.list (.cons (.lit (.int 3)) (.cons (.lit (.int 14)) .nil)))) (M9 l H (putS [c] (iv (H.ro c)) OL))=.ok (.bool (([3,14]:List Nat).contains (H.ro c))) (M9 l H (putS [c] (iv (H.ro c)) OL)++[.list (intsV [3,14])]) :=
    in_list (S:=[3,14]) (er _) rfl (by decide)
  have e3:∀ r,evalE tab cf K (lo is sp W X (sv [c])) true (.cmp .in_ (.loc 10) (.loc 8)) (M9 l H (putS [c] (iv (H.ro c)) OL)++r)=.ok (.bool (X.contains c)) (M9 l H (putS [c] (iv (H.ro c)) OL)++r):=fun r=>cmp_ok (loc_val rfl) (loc_val rfl) rfl
  have st:∀ (k:Int) (r:List AO),execs tab cf K (.cons (.asgI (.loc 9) (.loc 10) (.lit (.int k))) .nil) (lo is sp W X (sv [c])) (M9 l H (putS [c] (iv (H.ro c)) OL)++r)=.next (lo is sp W X (sv [c])) (M9 l H (putS [c] (.int k) OL)++r):=fun k r=>by
    rw [xone,store9 lit_ok rfl rfl hO1,put_put]
  unfold b14_4
  rw [seq_next t1,xone]
  have eo:putO H W X OL c=putS [c] (iv (ouf (H.ro c) (W.contains c) (X.contains c))) OL:=rfl
  rw [eo]
  unfold ouf
  cases hw:W.contains c with
  | true =>
    refine ⟨[],?_⟩
    rw [xif (or_t (e1.trans (by rw [hw]))),if_pos rfl,List.append_nil]
    have:=st 3 []
    rw [List.append_nil,List.append_nil] at this
    exact this
  | false =>
    refine ⟨[.list (intsV [3,14])],?_⟩
    rw [xif (or_f (e1.trans (by rw [hw])) e2)]
    cases h3:([3,14]:List Nat).contains (H.ro c) with
    | true=>rw [if_pos rfl]; exact st 3 _
    | false =>
      rw [if_neg Bool.false_ne_true,blk (B:=b14_3) rfl (e3 _)]
      cases hx:X.contains c with
      | true=>rw [if_pos rfl]; exact st 4 _
      | false=>rw [if_neg Bool.false_ne_true]; rfl
theorem low9 (hn:6 < n) (hO:lows n (OL.map (·.2))=true):aoLows n (M9 l H OL)=true:=by
  show (true&&(decide (6 < n)&&(lows n (intsV l)&&(true&&(lows n (intsV (l++z8))&&(true&&(true&&(lows n (OL.map (·.2))&&true))))))))=true
  rw [lows_ints,lows_ints,hO,decide_eq_true hn]; rfl
theorem put_low {k:List Nat} (hv:V.low n v=true):∀ l:List (List Nat × V),lows n (l.map (·.2))=true→lows n ((putS k v l).map (·.2))=true
  | [],_=>by show (V.low n v&&true)=true; rw [hv]; rfl
  | (b,w) :: r,h=>by
    obtain ⟨h1,h2⟩:=Bool.and_eq_true_iff.mp (show (V.low n w&&lows n (r.map (·.2)))=true from h)
    show lows n ((if (k == b)=true then (b,v) :: r else (b,w) :: putS k v r).map (·.2))=true
    by_cases hk:(k == b)=true
    · rw [if_pos hk]
      show (V.low n v&&lows n (r.map (·.2)))=true
      rw [hv,h2]; rfl
    · rw [if_neg hk]
      show (V.low n w&&lows n ((putS k v r).map (·.2)))=true
      rw [h1,put_low hv r h2]; rfl
theorem set10 {a10:LV} (h:Fr a10):setLoc (lo is sp W X a10) s 10 v=.next (lo is sp W X (.val v)) s:=by
  rcases h with e | ⟨v,e⟩<;>rw [e]<;>rfl
theorem at8 {j:Nat} (h:signs8[j]?=some c):(Src.fixed (chars signs8)).at s j=some (some (.str [c])):=by
  show some ((chars signs8)[j]?)=_
  rw [List.getElem?_map,h]; rfl
theorem end8 {j:Nat} (h:signs8.drop j=[]):(Src.fixed (chars signs8)).at s j=some none:=by
  show some ((chars signs8)[j]?)=_
  rw [List.getElem?_map,List.getElem?_eq_none (List.drop_eq_nil_iff.mp h)]; rfl
theorem trim8 (hO:lows 8 (OL.map (·.2))=true):trim 8 (lo is sp W X (sv [c])) (M9 l H OL++r)=(lo is sp W X (sv [c]),M9 l H OL):=by
  refine trim_tail (n:=8) rfl (low9 (by decide) hO) ?_ rfl fun _=>rfl
  show (if lows 8 (is.map V.int)=true then LV.val (.lst (is.map .int)) else .un) :: _=_
  rw [if_pos (lows_iis 8 is)]; rfl
noncomputable abbrev FO (K:Nat) (cf:Nat→List V→List AO→R V):Nat→Nat→List LV→List AO→RS:=forTurns (.fixed (chars signs8)) 10 (fun l s=>execs tab cf K b14_4 l s)
theorem out_loop (r:List Nat):∀ (c j f:Nat) (OL:List (List Nat × V)) (a10:LV),signs8.drop j=c :: r→r.length+1 < f→OL.length ≤ j→(∀ n,lows n (OL.map (·.2))=true)→Fr a10 →
    ∃ x,FO K cf f j (lo is sp W X a10) (M9 l H OL)=.next (lo is sp W X (sv x)) (M9 l H ((c :: r).foldl (putO H W X) OL)):=by
  have go:∀ (r:List Nat) (c j f:Nat) (OL:List (List Nat × V)) (a10:LV),signs8.drop j=c :: r→OL.length ≤ j→(∀ n,lows n (OL.map (·.2))=true)→Fr a10→signs8.drop (j+1)=r∧FO K cf (f+1) j (lo is sp W X a10) (M9 l H OL)=FO K cf f (j+1) (lo is sp W X (sv [c])) (M9 l H (putO H W X OL c)):=by
    intro r c j f OL a10 hd hO hlow ha
    have hj:signs8[j]?=some c:=by
      have:=congrArg (fun l:List Nat=>l[0]?) hd
      rw [List.getElem?_drop] at this
      exact this
    have hd1:signs8.drop (j+1)=r:=by
      have:=congrArg List.tail hd
      rw [List.tail_drop] at this
      exact this
    have hj8:j < 8:=at_lt hj
    obtain ⟨r0,ht⟩:=out_turn (cf:=cf) (K:=K) (is:=is) (sp:=sp) (W:=W) (X:=X) (l:=l) (H:=H) (List.mem_of_getElem? hj) (show OL.length < 90 by omega)
    have e1:FO K cf (f+1) j (lo is sp W X a10) (M9 l H OL)=loopRes (FO K cf f (j+1)) 8 false (execs tab cf K b14_4 (lo is sp W X (sv [c])) (M9 l H OL)):=for_step (at8 hj) (set10 ha)
    refine ⟨hd1,?_⟩
    rw [e1,ht,loop_next,trim8 (put_low rfl OL (hlow _))]
  induction r with
  | nil =>
    intro c j f OL a10 hd hf hO hlow ha
    match f,hf with
    | f+2,_ =>
      obtain ⟨h1,h2⟩:=go [] c j (f+1) OL a10 hd hO hlow ha
      exact ⟨[c],h2.trans (for_end (end8 h1))⟩
  | cons c2 r ih =>
    intro c j f OL a10 hd hf hO hlow ha
    cases f with
    | zero=>exact absurd hf (Nat.not_lt_zero _)
    | succ f =>
      obtain ⟨h1,h2⟩:=go (c2 :: r) c j f OL a10 hd hO hlow ha
      obtain ⟨x,hx⟩:=ih c2 (j+1) f (putO H W X OL c) (sv [c]) h1 (Nat.lt_of_succ_lt_succ hf) (Nat.le_trans (put_len _ _ _) (Nat.succ_le_succ hO)) (fun n=>put_low rfl OL (hlow n)) Fr.v
      exact ⟨x,h2.trans hx⟩
end
section
variable {l:List Nat} {d n:Nat} {is:List Int} {H:H8} {W X:List Nat} {cf:Nat→List V→List AO→R V} {L:List LV} {s:List AO}
noncomputable def tlr (l:List Nat):List Nat:=l.drop 8
noncomputable def srcr (l:List Nat):List Nat:=if (tlr l).isEmpty=true then l else tlr l
noncomputable def txt (l:List Nat):List Nat:=(srcr l).map fun n=>signs8.getD (n % 8) 0
noncomputable def spl (H:H8):Bool:=((H.h7:Nat):Int) % 2 == 1
noncomputable abbrev mkH (H:H8):List Nat:=flt H.ro [2,8,9,10,11,14,15]
noncomputable abbrev o2:LV:=.val (.obj 2)
noncomputable abbrev o5:LV:=.val (.obj 5)
noncomputable abbrev i6:LV:=.val (.int 6)
noncomputable abbrev o7:LV:=.val (.obj 7)
noncomputable abbrev M11 (l:List Nat) (H:H8) (W X:List Nat):List AO:=[cs signs8,c6,li l,li z8,li (l++z8),li H.l,.dict (RLo H),.dict (OLo H W X),li (tlr l),lc (txt l)]
noncomputable abbrev M12 (l:List Nat) (H:H8) (W X:List Nat):List AO:=M11 l H W X++[lc (mkH H)]
noncomputable abbrev LA (is:List Int) (l:List Nat) (H:H8) (W X x:List Nat) (a13 a14 a15 a16:LV):List LV:=lg is o2 o5 i6 (.val (.bool (spl H))) (sv W) (sv X) o7 (sv x) (sv (txt l)) (sv (mkH H)) a13 a14 a15 a16
noncomputable abbrev rest12:Sts:=.cons (.asg 13 (.newC 0 (.cons (.loc 11) (.cons (.lit (.bool true)) (.cons (.loc 12) .nil))) [2,3])) (.cons (.asgA (.loc 13) 6 (.bin .add (.bm .join (.lit (.str [])) (.cons (.comp (.loc 3) [none,none,some 4] 1 (.cons (.cmp .in_ (.idx (.loc 2) (.loc 1)) (.list (.cons (.lit (.int 3)) (.cons (.lit (.int 14)) .nil)))) .nil) (.loc 1)) .nil)) (.loc 7))) (.cons (.asgA (.loc 13) 4 (.bin .add (.bm .join (.lit (.str [])) (.cons (.comp (.loc 3) [none,none,some 4] 1 (.cons (.cmp .in_ (.idx (.loc 2) (.loc 1)) (.list (.cons (.lit (.int 4)) (.cons (.lit (.int 15)) .nil)))) .nil) (.loc 1)) .nil)) (.loc 8))) (.cons (.asgA (.loc 13) 8 (.bm .join (.lit (.str [])) (.cons (.comp (.loc 3) [none,none,some 4] 1 (.cons (.cmp .in_ (.idx (.loc 2) (.loc 1)) (.list (.cons (.lit (.int 5)) (.cons (.lit (.int 6)) (.cons (.lit (.int 9)) (.cons (.lit (.int 10)) (.cons (.lit (.int 12)) .nil))))))) .nil) (.loc 1)) .nil))) (.cons (.asgA (.loc 13) 10 (.bm .join (.lit (.str [])) (.cons (.comp (.loc 3) [none,none,some 4] 1 (.cons (.cmp .in_ (.idx (.loc 2) (.loc 1)) (.list (.cons (.lit (.int 6)) (.cons (.lit (.int 10)) .nil)))) .nil) (.loc 1)) .nil))) (.cons (.asgA (.loc 13) 9 (.bm .join (.lit (.str [])) (.cons (.comp (.loc 3) [none,none,some 4] 1 (.cons (.cmp .in_ (.idx (.loc 2) (.loc 1)) (.list (.cons (.lit (.int 7)) (.cons (.lit (.int 11)) (.cons (.lit (.int 13)) .nil))))) .nil) (.loc 1)) .nil))) (.cons (.asgA (.loc 13) 5 (.bm .join (.lit (.str [])) (.cons (.comp (.loc 3) [none,none,some 4] 1 (.cons (.cmp .in_ (.idx (.loc 2) (.loc 1)) (.list (.cons (.lit (.int 1)) (.cons (.lit (.int 8)) (.cons (.lit (.int 12)) (.cons (.lit (.int 13)) .nil)))))) .nil) (.loc 1)) .nil))) (.cons (.asgA (.loc 13) 7 (.loc 6)) (.cons (.unp [14,15] (.callF 5 (.cons (.loc 11) (.cons (.loc 4) (.cons (.loc 9) (.cons (.loc 6) .nil)))))) (.cons (.asg 16 (.list .nil)) (.cons (.for_ 17 (.bi .range (.cons (.bin .add (.bi .len (.cons (.loc 11) .nil)) (.lit (.int 2))) .nil)) b14_7) (.cons (.ret (.cmp .eq (.loc 16) (.bin .add (.loc 14) (.bin .mul (.list (.cons (.loc 15) .nil)) (.bin .sub (.bin .add (.bi .len (.cons (.loc 11) .nil)) (.lit (.int 2))) (.bi .len (.cons (.loc 14) .nil))))))) (.nil))))))))))))
theorem src_len (h:l.length ≤ 160):(srcr l).length ≤ 160:=by
  unfold srcr
  split
  · exact h
  · exact Nat.le_trans (by unfold tlr; rw [List.length_drop]; exact Nat.sub_le _ _) h
theorem txt_mem:∀ c ∈ txt l,c ∈ signs8:=by
  intro c m
  obtain ⟨n,mn,e⟩:=List.mem_map.mp m
  have hn:n % 8 < signs8.length:=Nat.mod_lt _ (by decide)
  rw [← e,List.getD_eq_getElem?_getD,List.getElem?_eq_getElem hn]
  exact List.getElem_mem _
theorem low11 (hn:6 < n) (h7:7 < n):aoLows n (M9 l H (OLo H W X)++[li (tlr l)])=true:=by
  rw [aoLows_app,low9 hn rfl]
  show (true&&(lows n (intsV (tlr l))&&true))=true
  rw [lows_ints]; rfl
theorem e7 (h:s[5]?=some (li H.l)) (h2:L[2]?=some o5):evalE tab cf 1000 L false (.idx (.loc 2) (.lit (.int 7))) s=.ok (.int (H.h7:Int)) s :=
  idx_ok (loc_val h2) lit_ok (by
    show R.opt ((s[5]?).bind AO.list?) _=_
    rw [h]; rfl)
theorem tst_int {o:Op} {a b:Ex} {i:Int} (h:evalE tab cf 1000 L false (.bin o a b) s=.ok (.int i) s):evalE tab cf 1000 L true (.bin o a b) s=.ok (.bool (i != 0)) s:=by
  have e:evalE tab cf 1000 L true (.bin o a b) s=fin true (evalE tab cf 1000 L false (.bin o a b) s):=rfl
  rw [e,h]; rfl
theorem or_two {a b:Ex} {v w:V} {s1:List AO} {q:Bool} (h1:evalE tab cf 1000 L false a s=.ok v s1) (ht:truth s1 v=some q) (h2:evalE tab cf 1000 L false b s1=.ok w s1):evalE tab cf 1000 L false (.boolop false (.cons a (.cons b .nil))) s=if q=true then .ok v s1 else .ok w s1:=by
  show (evalE tab cf 1000 L false a s).bind (fun v s=>match truth s v with
      | some b'=>if (b' == false)=true then evalE tab cf 1000 L false b s else .ok v s
      | none=>.fail)=_
  rw [h1]
  show (match truth s1 v with | some b'=>_ | none=>_)=_
  rw [ht]
  cases q with
  | true=>rfl
  | false=>exact h2
theorem lawA (hne:is ≠ []):∃ (l:List Nat) (H:H8) (W X x:List Nat),l.length ≤ 160∧H.Ok∧W.length ≤ 2∧X.length ≤ 2∧execs tab (callF tab 1000 (d+1)) 1000 b14_8 (lg is .un .un .un .un .un .un .un .un .un .un .un .un .un .un) cn2=execs tab (callF tab 1000 (d+1)) 1000 rest12 (LA is l H W X x .un .un .un .un) (M12 l H W X):=by
  obtain ⟨l,h16,hl,hn0,hcall⟩:=dg_eval (K:=1000) (d:=d) (is:=is) (by decide) hne
  obtain ⟨H,hok,hH⟩:=h8_of h16
  have s0:execS tab (callF tab 1000 (d+1)) 1000 (.asg 1 (.boolop false (.cons (.callF 1 (.cons (.loc 0) .nil)) (.cons (.list (.cons (.lit (.int 0)) (.cons (.lit (.int 1)) (.cons (.lit (.int 1)) (.cons (.lit (.int 0)) (.cons (.lit (.int 0)) (.cons (.lit (.int 0)) (.cons (.lit (.int 0)) (.cons (.lit (.int 2)) (.cons (.lit (.int 0)) (.cons (.lit (.int 1)) (.cons (.lit (.int 2)) .nil)))))))))))) .nil)))) (lg is .un .un .un .un .un .un .un .un .un .un .un .un .un .un) cn2=.next (lg is o2 .un .un .un .un .un .un .un .un .un .un .un .un .un) [.cell none,.cell none,li l]:=by
    refine asg_ok (v:=.obj 2) (s1:=[.cell none,.cell none,li l]) ?_ rfl
    show (evalE tab (callF tab 1000 (d+1)) 1000 (lg is .un .un .un .un .un .un .un .un .un .un .un .un .un .un) false (.callF 1 (.cons (.loc 0) .nil)) cn2).bind _=_
    rw [callF_ok (es1 (loc_val rfl)) hcall]
    cases l with
    | nil=>exact absurd rfl hn0
    | cons a r=>rfl
  have s1:execS tab (callF tab 1000 (d+1)) 1000 (.asg 2 (.slice (.bin .add (.loc 1) (.list (.cons (.lit (.int 0)) (.cons (.lit (.int 0)) (.cons (.lit (.int 0)) (.cons (.lit (.int 0)) (.cons (.lit (.int 0)) (.cons (.lit (.int 0)) (.cons (.lit (.int 0)) (.cons (.lit (.int 0)) .nil)))))))))) (.lit (.none)) (.lit (.int 8)))) (lg is o2 .un .un .un .un .un .un .un .un .un .un .un .un .un) [.cell none,.cell none,li l]=.next (lg is o2 o5 .un .un .un .un .un .un .un .un .un .un .un .un) [.cell none,.cell none,li l,li z8,li (l++z8),li H.l]:=by
    refine asg_ok (v:=.obj 5) (s1:=[.cell none,.cell none,li l,li z8,li (l++z8),li H.l]) ?_ rfl
    have ea:evalE tab (callF tab 1000 (d+1)) 1000 (lg is o2 .un .un .un .un .un .un .un .un .un .un .un .un .un) false (.bin .add (.loc 1) (.list (.cons (.lit (.int 0)) (.cons (.lit (.int 0)) (.cons (.lit (.int 0)) (.cons (.lit (.int 0)) (.cons (.lit (.int 0)) (.cons (.lit (.int 0)) (.cons (.lit (.int 0)) (.cons (.lit (.int 0)) .nil)))))))))) [.cell none,.cell none,li l]=.ok (.obj 4) [.cell none,.cell none,li l,li z8,li (l++z8)]:=by
      refine bin_ok (x:=.obj 2) (s1:=[.cell none,.cell none,li l]) (y:=.obj 3) (s2:=[.cell none,.cell none,li l,li z8]) (loc_val rfl) rfl ?_
      show (if (intsV l).length+(intsV z8).length ≤ lim then (R.ok (V.obj 4) ([.cell none,.cell none,li l,li z8]++[.list (intsV l++intsV z8)]):R V) else R.fail)=_
      rw [if_pos (Nat.le_trans (show _ ≤ 1000 by rw [List.length_map,List.length_map]; show l.length+8 ≤ 1000; omega) (by decide)),← List.map_append]
      rfl
    have ec:=cutL0 (s:=[.cell none,.cell none,li l,li z8,li (l++z8)]) (q:=4) (b:=8) (l:=l++z8) rfl (by decide)
    rw [hH] at ec
    exact slice_ok ea lit_ok lit_ok ec
  have s2:execS tab (callF tab 1000 (d+1)) 1000 (.asg 3 (.lit (.str [117,118,119,120,121,122,10,43]))) (lg is o2 o5 .un .un .un .un .un .un .un .un .un .un .un .un) [.cell none,.cell none,li l,li z8,li (l++z8),li H.l]=.next (lg is o2 o5 .un .un .un .un .un .un .un .un .un .un .un .un) [cs signs8,.cell none,li l,li z8,li (l++z8),li H.l]:=rfl
  have s3:execS tab (callF tab 1000 (d+1)) 1000 (.asg 4 (.dict (.cons (.lit (.str [43])) .nil) (.cons (.lit (.int 2)) .nil))) (lg is o2 o5 .un .un .un .un .un .un .un .un .un .un .un .un) [cs signs8,.cell none,li l,li z8,li (l++z8),li H.l]=.next (lg is o2 o5 .un .un .un .un .un .un .un .un .un .un .un .un) (M5 l H [([43],iv 2)]):=rfl
  have s4:execS tab (callF tab 1000 (d+1)) 1000 (.for_ 5 (.bi .range (.cons (.lit (.int 7)) .nil)) b14_0) (lg is o2 o5 .un .un .un .un .un .un .un .un .un .un .un .un) (M5 l H [([43],iv 2)])=.next (lg is o2 o5 i6 .un .un .un .un .un .un .un .un .un .un .un) (M5 l H (RLo H)):=by kernel_rfl
  have s5:execS tab (callF tab 1000 (d+1)) 1000 (.asg 6 (.cmp .eq (.bin .mod (.idx (.loc 2) (.lit (.int 7))) (.lit (.int 2))) (.lit (.int 1)))) (lg is o2 o5 i6 .un .un .un .un .un .un .un .un .un .un .un) (M5 l H (RLo H))=.next (lg is o2 o5 i6 (.val (.bool (spl H))) .un .un .un .un .un .un .un .un .un .un) (M5 l H (RLo H)) :=
    asg_ok (cmp_ok (bin_ok (e7 rfl rfl) lit_ok rfl) lit_ok rfl) rfl
  have hW:∃ W:List Nat,W.length ≤ 2∧execS tab (callF tab 1000 (d+1)) 1000 (.asg 7 (.bin .add (.ife (.bin .mod (.bin .fdiv (.idx (.loc 2) (.lit (.int 7))) (.lit (.int 2))) (.lit (.int 2))) (.lit (.str [118])) (.lit (.str []))) (.ife (.bin .fdiv (.idx (.loc 2) (.lit (.int 7))) (.lit (.int 8))) (.lit (.str [120])) (.lit (.str []))))) (lg is o2 o5 i6 (.val (.bool (spl H))) .un .un .un .un .un .un .un .un .un .un) (M5 l H (RLo H))=.next (lg is o2 o5 i6 (.val (.bool (spl H))) (sv W) .un .un .un .un .un .un .un .un .un) (M5 l H (RLo H)):=by
    refine ⟨tw 118 120 (((H.h7:Int) / 2 % 2) != 0) (((H.h7:Int) / 8) != 0),tw_len,asg_ok (two_str ?_ ?_) rfl⟩
    · exact tst_int (bin_ok (bin_ok (e7 rfl rfl) lit_ok rfl) lit_ok rfl)
    · exact tst_int (bin_ok (e7 rfl rfl) lit_ok rfl)
  obtain ⟨W,lW,s6⟩:=hW
  have hX:∃ X:List Nat,X.length ≤ 2∧execS tab (callF tab 1000 (d+1)) 1000 (.asg 8 (.bin .add (.ife (.bin .mod (.bin .fdiv (.idx (.loc 2) (.lit (.int 7))) (.lit (.int 4))) (.lit (.int 2))) (.lit (.str [119])) (.lit (.str []))) (.ife (.bin .fdiv (.idx (.loc 2) (.lit (.int 7))) (.lit (.int 8))) (.lit (.str [120])) (.lit (.str []))))) (lg is o2 o5 i6 (.val (.bool (spl H))) (sv W) .un .un .un .un .un .un .un .un .un) (M5 l H (RLo H))=.next (lg is o2 o5 i6 (.val (.bool (spl H))) (sv W) (sv X) .un .un .un .un .un .un .un .un) (M5 l H (RLo H)):=by
    refine ⟨tw 119 120 (((H.h7:Int) / 4 % 2) != 0) (((H.h7:Int) / 8) != 0),tw_len,asg_ok (two_str ?_ ?_) rfl⟩
    · exact tst_int (bin_ok (bin_ok (e7 rfl rfl) lit_ok rfl) lit_ok rfl)
    · exact tst_int (bin_ok (e7 rfl rfl) lit_ok rfl)
  obtain ⟨X,lX,s7⟩:=hX
  have s8:execS tab (callF tab 1000 (d+1)) 1000 (.asg 9 (.dict .nil .nil)) (lg is o2 o5 i6 (.val (.bool (spl H))) (sv W) (sv X) .un .un .un .un .un .un .un .un) (M5 l H (RLo H))=.next (lo is (spl H) W X .un) (M9 l H []):=rfl
  obtain ⟨x,hloop⟩:=out_loop (cf:=callF tab 1000 (d+1)) (K:=1000) (is:=is) (sp:=spl H) (W:=W) (X:=X) (l:=l) (H:=H) [118,119,120,121,122,10,43] 117 0 1000 [] .un rfl (by decide) (Nat.le_refl 0) (fun _=>rfl) Fr.u
  have s9:execS tab (callF tab 1000 (d+1)) 1000 (.for_ 10 (.loc 3) b14_4) (lo is (spl H) W X .un) (M9 l H [])=.next (lo is (spl H) W X (sv x)) (M9 l H (OLo H W X)) :=
    (for_ev (loc_cel rfl rfl) rfl).trans hloop
  have s10:execS tab (callF tab 1000 (d+1)) 1000 (.asg 11 (.bm .join (.lit (.str [])) (.cons (.comp (.boolop false (.cons (.slice (.loc 1) (.lit (.int 8)) (.lit (.none))) (.cons (.loc 1) .nil))) [none,none,some 3] 1 .nil (.idx (.loc 2) (.bin .mod (.loc 1) (.lit (.int 8))))) .nil))) (lo is (spl H) W X (sv x)) (M9 l H (OLo H W X))=.next (lg is o2 o5 i6 (.val (.bool (spl H))) (sv W) (sv X) o7 (sv x) (sv (txt l)) .un .un .un .un .un) (M11 l H W X):=by
    have hsrc:∃ src v,evalE tab (callF tab 1000 (d+1)) 1000 (lo is (spl H) W X (sv x)) false (.boolop false (.cons (.slice (.loc 1) (.lit (.int 8)) (.lit (.none))) (.cons (.loc 1) .nil))) (M9 l H (OLo H W X))=.ok v (M9 l H (OLo H W X)++[li (tlr l)]) ∧
        srcOf (M9 l H (OLo H W X)++[li (tlr l)]) v=some src∧∀ (acc:List V) (j:Nat),src.at ((M9 l H (OLo H W X)++[li (tlr l)])++[.list acc]) j=some (intsV (srcr l))[j]?:=by
      have es:evalE tab (callF tab 1000 (d+1)) 1000 (lo is (spl H) W X (sv x)) false (.slice (.loc 1) (.lit (.int 8)) (.lit (.none))) (M9 l H (OLo H W X))=.ok (.obj 8) (M9 l H (OLo H W X)++[li (tlr l)]) :=
        slice_ok (loc_val rfl) lit_ok lit_ok (cutLe (q:=2) (a:=8) (l:=l) rfl (by decide))
      have eb:=or_two (b:=.loc 1) (q:=!(tlr l).isEmpty) es (by cases tlr l<;>rfl) (loc_val rfl)
      unfold srcr
      cases ht:(tlr l).isEmpty with
      | true =>
        rw [ht,if_neg (show ¬ (!true)=true from Bool.false_ne_true)] at eb
        exact ⟨.live 2,_,eb,rfl,fun _ _=>rfl⟩
      | false =>
        rw [ht,if_pos (show (!false)=true from rfl)] at eb
        exact ⟨.live 8,_,eb,rfl,fun _ _=>rfl⟩
    obtain ⟨src,v,e1,e2,e3⟩:=hsrc
    exact asg_ok (comp_idx (s':=M9 l H (OLo H W X)++[li (tlr l)]) (ns:=srcr l) (S:=signs8) (c:=0) (src:=src) rfl e1 e2 e3 rfl rfl (low11 (n:=10) (by decide) (by decide)) (Nat.lt_of_le_of_lt (src_len hl) (by decide)) (Nat.le_trans (src_len hl) (by decide))) rfl
  have hl10:aoLows 11 (M11 l H W X)=true:=by
    have e:M11 l H W X=M9 l H (OLo H W X)++[li (tlr l)]++[lc (txt l)]:=rfl
    rw [e,aoLows_app,low11 (by decide) (by decide)]
    show (true&&(lows 11 (chars (txt l))&&true))=true
    rw [lows_chars]; rfl
  have s11:execS tab (callF tab 1000 (d+1)) 1000 (.asg 12 (.bm .join (.lit (.str [])) (.cons (.comp (.loc 3) [none,none,some 4] 1 (.cons (.cmp .in_ (.idx (.loc 2) (.loc 1)) (.list (.cons (.lit (.int 2)) (.cons (.lit (.int 8)) (.cons (.lit (.int 9)) (.cons (.lit (.int 10)) (.cons (.lit (.int 11)) (.cons (.lit (.int 14)) (.cons (.lit (.int 15)) .nil))))))))) .nil) (.loc 1)) .nil))) (lg is o2 o5 i6 (.val (.bool (spl H))) (sv W) (sv X) o7 (sv x) (sv (txt l)) .un .un .un .un .un) (M11 l H W X)=.next (LA is l H W X x .un .un .un .un) (M12 l H W X) :=
    asg_ok (comp_ro (ro:=H.ro) (RL:=RLo H) (S:=[2,8,9,10,11,14,15]) rfl (loc_cel rfl rfl) rfl rfl look_ro hl10 (by decide) (fun _ _=>rfl) (by decide)) rfl
  refine ⟨l,H,W,X,x,hl,hok,lW,lX,?_⟩
  unfold b14_8
  rw [seq_next s0,seq_next s1,seq_next s2,seq_next s3,seq_next s4,seq_next s5,seq_next s6,seq_next s7,seq_next s8,seq_next s9,seq_next s10,seq_next s11]
end
section
variable {l:List Nat} {d n k:Nat} {is:List Int} {H:H8} {W X x:List Nat} {s:List AO} {ws cm qs eq es wc:List Nat} {sp:Bool}
theorem initMk {c0 c1 c2 c3 c4 c5 c6 c7 c8 c9 c10:AO} {K:Nat} {text mk:List Nat} (hne:∃ m ms,mk=m :: ms) (hl:mk.length ≤ 1000):callF tab K (d+6) 15 [.obj 12,.str text,.none,.bool true,.str mk] [c0,c1,c2,c3,c4,c5,c6,c7,c8,c9,c10,.attrs [],.inst 0 11]=.ok .none (hB c0 c1 c2 c3 c4 c5 c6 c7 c8 c9 c10 mk (lx0 text mk false)):=by
  obtain ⟨m,ms,e⟩:=hne
  rw [e] at hl ⊢
  exact initCall hl
noncomputable abbrev lx1 (l:List Nat) (H:H8) (ws cm qs eq es wc:List Nat) (sp:Bool):Lx where
  cm:=cm
  wc:=wc
  ws:=ws
  sp:=sp
  qs:=qs
  es:=es
  eq:=eq
  st:=.str [32]
  ln:=1
  tok:=[]
  pu:=mkH H
  buf:=txt l
  pos:=0
  pb:=[]
noncomputable abbrev hX (l:List Nat) (H:H8) (W X:List Nat) (σ:Lx):List AO:=hB (cs signs8) c6 (li l) (li z8) (li (l++z8)) (li H.l) (.dict (RLo H)) (.dict (OLo H W X)) (li (tlr l)) (lc (txt l)) (lc (mkH H)) (mkH H) σ
theorem lowX (hn:20 ≤ n):aoLows n (hX l H W X (lx1 l H ws cm qs eq es wc sp))=true:=by
  have d:∀ k,k < 20→decide (k < n)=true:=fun k hk=>decide_eq_true (Nat.lt_of_lt_of_le hk hn)
  show (true&&(decide (6 < n)&&(lows n (intsV l)&&(true&&(lows n (intsV (l++z8))&&(true&&(true&&(true&&(lows n (intsV (tlr l))&&(lows n (chars (txt l))&&(lows n (chars (mkH H))&&((decide (14 < n)&&(true&&(true&&(true&&(true&&(true&&(true&&(true&&(true&&(true&&(true&&(true&&(decide (15 < n)&&(true&&(true&&(true&&(decide (16 < n)&&(true&&(true&&(decide (17 < n)&&true))))))))))))))))))))&&(decide (11 < n)&&(true&&(decide (13 < n)&&(true&&(true&&(true&&(true&&(true&&true))))))))))))))))))))=true
  rw [lows_ints,lows_ints,lows_ints,lows_chars,lows_chars,d 6 (by decide),d 11 (by decide),d 13 (by decide),d 14 (by decide),d 15 (by decide),d 16 (by decide),d 17 (by decide)]
  rfl
theorem low_lc (h:aoLows n s=true) (f:List Nat):aoLows n (s++[lc f])=true:=by
  rw [aoLows_app,h]
  show (true&&(lows n (chars f)&&true))=true
  rw [lows_chars]; rfl
noncomputable abbrev f1 (H:H8):List Nat:=flt H.ro [3,14]
noncomputable abbrev f2 (H:H8):List Nat:=flt H.ro [4,15]
noncomputable abbrev f3 (H:H8):List Nat:=flt H.ro [5,6,9,10,12]
noncomputable abbrev f4 (H:H8):List Nat:=flt H.ro [6,10]
noncomputable abbrev f5 (H:H8):List Nat:=flt H.ro [7,11,13]
noncomputable abbrev f6 (H:H8):List Nat:=flt H.ro [1,8,12,13]
noncomputable abbrev lxE (l:List Nat) (H:H8) (W X:List Nat):Lx:=lx1 l H (f1 H++W) (f2 H++X) (f3 H) (f4 H) (f5 H) (f6 H) (spl H)
noncomputable abbrev preX (l:List Nat) (H:H8) (W X:List Nat):List AO:=hX l H W X (lxE l H W X)++[lc (f1 H)]++[lc (f2 H)]++[lc (f3 H)]++[lc (f4 H)]++[lc (f5 H)]++[lc (f6 H)]
theorem pre_hr:Hr (RLo H) (OLo H W X) H.ro (H.ou W X) (txt l) (preX l H W X) where
  len:=rfl
  d:={
    r:=rfl
    o:=rfl
    lr:=fun c m=>look_ro c (txt_mem c m)
    lo:=fun c m=>look_ou c (txt_mem c m)
    low:=fun n hn=>low_lc (low_lc (low_lc (low_lc (low_lc (low_lc (lowX (Nat.le_trans (by decide) hn)) _) _) _) _) _) _
    len:=Nat.le_of_eq rfl }
theorem lx_ok (h:H.Ok) (hl:(txt l).length ≤ 160):LxOk (lxE l H W X) :=
  ⟨mk_cons,flt_no rfl,flt_no rfl,flt_no rfl,flt_no rfl,flt_no rfl,flt_no rfl,eq_dis h,Nat.lt_of_le_of_lt hl (by decide)⟩
noncomputable abbrev gX (l:List Nat) (H:H8) (W X:List Nat) (T:List V):G:=⟨cs signs8,c6,li l,li z8,li (l++z8),li H.l,.dict (RLo H),.dict (OLo H W X),li (tlr l),lc (txt l),lc (mkH H),.keys (keysOf (mkH H)),.ords (ordsOf (mkH H)),lc (f1 H),lc (f2 H),lc (f3 H),lc (f4 H),lc (f5 H),lc (f6 H),.list T,.list []⟩
noncomputable abbrev oX (is:List Int) (l:List Nat) (H:H8) (W X x:List Nat) (e:V):Lo:=⟨is.map .int,W,X,x,txt l,mkH H,spl H,e⟩
theorem law_end {T F:List V} {e:V} {σ:Lx} {a17:LV} {K:Nat} {cf:Nat→List V→List AO→R V} (hT:T.length ≤ (txt l).length) (hl:(txt l).length ≤ 160) (hF:F=T++List.replicate ((txt l).length+2 - T.length) e) (hq:itemsEq F F=true) :
    ∃ s,execs tab cf K (.cons (.ret (.cmp .eq (.loc 16) (.bin .add (.loc 14) (.bin .mul (.list (.cons (.loc 15) .nil)) (.bin .sub (.bin .add (.bi .len (.cons (.loc 11) .nil)) (.lit (.int 2))) (.bi .len (.cons (.loc 14) .nil))))))) .nil) (lf (oX is l H W X x e) a17 .un) (hp (gf (gX l H W X T) F) σ)=.ret (.bool true) s:=by
  have hk:((txt l).length:Int)+2 - (T.length:Int)=(((txt l).length+2 - T.length:Nat):Int):=by omega
  have e2:∀ s:List AO,s[26]?=some (.list T)→evalE tab cf K (lf (oX is l H W X x e) a17 .un) false (.bin .sub (.bin .add (.bi .len (.cons (.loc 11) .nil)) (.lit (.int 2))) (.bi .len (.cons (.loc 14) .nil))) s=.ok (.int (((txt l).length+2 - T.length:Nat):Int)) s:=by
    intro s hs
    have el:biOp s .len [.obj 26]=.ok (.int (T.length:Int)) s:=by
      show R.opt (s[26]?.bind AO.list?) _=_
      rw [hs]; rfl
    refine bin_ok (x:=.int (((txt l).length:Int)+2)) (bin_ok (len_ok rfl (es1 (loc_val rfl)) rfl) lit_ok rfl) (len_ok rfl (es1 (loc_val rfl)) el) ?_
    show (R.ok (V.int (((txt l).length:Int)+2 - (T.length:Int))) s:R V)=_
    rw [hk]
  have e3:evalE tab cf K (lf (oX is l H W X x e) a17 .un) false (.bin .mul (.list (.cons (.loc 15) .nil)) (.bin .sub (.bin .add (.bi .len (.cons (.loc 11) .nil)) (.lit (.int 2))) (.bi .len (.cons (.loc 14) .nil)))) (hp (gf (gX l H W X T) F) σ)=.ok (.obj 29) (hp (gf (gX l H W X T) F) σ++[.list [e],.list (List.replicate ((txt l).length+2 - T.length) e)]):=by
    refine bin_ok (x:=.obj 28) (s1:=hp (gf (gX l H W X T) F) σ++[.list [e]]) rfl (e2 _ rfl) ?_
    show (if (decide ((0:Int) ≤ (((txt l).length+2 - T.length:Nat):Int))&&decide ((((txt l).length+2 - T.length:Nat):Int) ≤ 100000))=true then (R.ok (V.obj 29) (hp (gf (gX l H W X T) F) σ++[.list [e]]++[.list (List.replicate ((((txt l).length+2 - T.length:Nat):Int)).toNat e)]):R V) else R.fail)=_
    rw [decide_eq_true (Int.natCast_nonneg _),decide_eq_true (by omega),if_pos (show (true&&true)=true from rfl),Int.toNat_natCast,List.append_assoc]
    rfl
  have e4:evalE tab cf K (lf (oX is l H W X x e) a17 .un) false (.bin .add (.loc 14) (.bin .mul (.list (.cons (.loc 15) .nil)) (.bin .sub (.bin .add (.bi .len (.cons (.loc 11) .nil)) (.lit (.int 2))) (.bi .len (.cons (.loc 14) .nil))))) (hp (gf (gX l H W X T) F) σ)=.ok (.obj 30) (hp (gf (gX l H W X T) F) σ++[.list [e],.list (List.replicate ((txt l).length+2 - T.length) e),.list F]):=by
    refine bin_ok (x:=.obj 26) (s1:=hp (gf (gX l H W X T) F) σ) (loc_val rfl) e3 ?_
    show (if T.length+(List.replicate ((txt l).length+2 - T.length) e).length ≤ lim then (R.ok (V.obj 30) (hp (gf (gX l H W X T) F) σ++[.list [e],.list (List.replicate ((txt l).length+2 - T.length) e)]++[.list (T++List.replicate ((txt l).length+2 - T.length) e)]):R V) else R.fail)=_
    rw [if_pos (Nat.le_trans (show _ ≤ 1000 by rw [List.length_replicate]; omega) (by decide)),← hF,List.append_assoc]
    rfl
  refine ⟨hp (gf (gX l H W X T) F) σ++[.list [e],.list (List.replicate ((txt l).length+2 - T.length) e),.list F],seq_ret (ret_ok (cmp_ok (loc_val rfl) e4 ?_))⟩
  show retB _ (if itemsEq F F=true then some true else none)=_
  rw [if_pos hq]
  rfl
end
theorem flat_str (a:List Nat):flatEq (.str a) (.str a)=true:=beq_self_eq_true a
theorem rep_eq {e:V} (h:itemEq e e=true) (m:Nat):itemsEq (List.replicate m e) (List.replicate m e)=true:=by
  induction m with
  | zero=>rfl
  | succ m ih =>
    show (itemEq e e&&itemsEq (List.replicate m e) (List.replicate m e))=true
    rw [h,ih]; rfl
theorem found_eq (P:Par) (m:Nat):∀ (rest:List Nat),itemsEq (foundL P m rest) (foundL P m rest)=true:=by
  induction m with
  | zero=>exact fun _=>rfl
  | succ m ih =>
    intro rest
    show (let X:=(match z0 P rest with | .ok t rest'=>V.str t :: foundL P m rest' | .eof=>List.replicate (m+1) .none | .bad ms=>List.replicate (m+1) (refE ms)); itemsEq X X)=true
    cases z0 P rest with
    | ok t rest' =>
      show (flatEq (.str t) (.str t)&&itemsEq (foundL P m rest') (foundL P m rest'))=true
      rw [flat_str,ih]; rfl
    | eof=>exact rep_eq rfl _
    | bad ms=>exact rep_eq (by show (flatEq (.str refused) (.str refused)&&(flatEq (.str ms) (.str ms)&&true))=true; rw [flat_str,flat_str]; rfl) _
section
variable {l:List Nat} {d n k:Nat} {is:List Int} {H:H8} {W X x:List Nat} {s:List AO}
noncomputable abbrev o12:LV:=.val (.obj 12)
theorem flt_len (ro:Nat→Nat) (S:List Nat):(flt ro S).length ≤ 8:=List.length_filter_le _ _
theorem newC_ok {cf:Nat→List V→List AO→R V} {L:List LV} {K q:Nat} {as:Exs} {ks:List Nat} {vs:List V} {s s1:List AO} {r:R V} (h:evalEs tab cf K L as s=.ok vs s1) (h2:newOf tab cf q ks vs s1=r):evalE tab cf K L false (.newC q as ks) s=r:=by
  show (evalEs tab cf K L as s).bind _=_
  rw [h]; exact h2
theorem st12:execS tab (callF tab 1000 (d+7)) 1000 (.asg 13 (.newC 0 (.cons (.loc 11) (.cons (.lit (.bool true)) (.cons (.loc 12) .nil))) [2,3])) (LA is l H W X x .un .un .un .un) (M12 l H W X)=.next (LA is l H W X x o12 .un .un .un) (hX l H W X (lx1 l H [32,9,13,10] [35] [39,34] [34] [92] (wcOf (mkH H)) false)):=by
  have en:newOf tab (callF tab 1000 (d+7)) 0 [2,3] [.str (txt l),.bool true,.str (mkH H)] (M12 l H W X)=(callF tab 1000 (d+7) 15 [.obj 12,.str (txt l),.none,.bool true,.str (mkH H)] [cs signs8,c6,li l,li z8,li (l++z8),li H.l,.dict (RLo H),.dict (OLo H W X),li (tlr l),lc (txt l),lc (mkH H),.attrs [],.inst 0 11]).noneOnly (.obj 12):=by
    generalize callF tab 1000 (d+7)=cf
    generalize V.str (mkH H)=pc
    rfl
  have ei:=initMk (c0:=cs signs8) (c1:=c6) (c2:=li l) (c3:=li z8) (c4:=li (l++z8)) (c5:=li H.l) (c6:=.dict (RLo H)) (c7:=.dict (OLo H W X)) (c8:=li (tlr l)) (c9:=lc (txt l)) (c10:=lc (mkH H)) (K:=1000) (text:=txt l) (d:=d+1) (mk:=mkH H) mk_cons (Nat.le_trans (flt_len _ _) (by decide))
  rw [ei] at en
  exact asg_ok (newC_ok (es3 (loc_val rfl) lit_ok (loc_val rfl)) en) rfl
theorem st13 {cf:Nat→List V→List AO→R V} (lW:W.length ≤ 2) (lX:X.length ≤ 2):execS tab cf 1000 (.asgA (.loc 13) 6 (.bin .add (.bm .join (.lit (.str [])) (.cons (.comp (.loc 3) [none,none,some 4] 1 (.cons (.cmp .in_ (.idx (.loc 2) (.loc 1)) (.list (.cons (.lit (.int 3)) (.cons (.lit (.int 14)) .nil)))) .nil) (.loc 1)) .nil)) (.loc 7))) (LA is l H W X x o12 .un .un .un) (hX l H W X (lx1 l H [32,9,13,10] [35] [39,34] [34] [92] (wcOf (mkH H)) false))=.next (LA is l H W X x o12 .un .un .un) (hX l H W X (lx1 l H (f1 H++W) [35] [39,34] [34] [92] (wcOf (mkH H)) false)++[lc (f1 H)]) :=
  asgA_ok (bin_ok (comp_ro (s:=hX l H W X (lx1 l H [32,9,13,10] [35] [39,34] [34] [92] (wcOf (mkH H)) false)) (ro:=H.ro) (RL:=RLo H) (S:=[3,14]) rfl (loc_cel rfl rfl) rfl rfl look_ro (lowX (n:=21) (by decide)) (by decide) (fun _ _=>rfl) (by decide)) (loc_val rfl) (addStr (Nat.le_trans (Nat.add_le_add (flt_len _ _) lW) (by decide)))) (loc_val rfl) rfl
theorem st14 {cf:Nat→List V→List AO→R V} (lW:W.length ≤ 2) (lX:X.length ≤ 2):execS tab cf 1000 (.asgA (.loc 13) 4 (.bin .add (.bm .join (.lit (.str [])) (.cons (.comp (.loc 3) [none,none,some 4] 1 (.cons (.cmp .in_ (.idx (.loc 2) (.loc 1)) (.list (.cons (.lit (.int 4)) (.cons (.lit (.int 15)) .nil)))) .nil) (.loc 1)) .nil)) (.loc 8))) (LA is l H W X x o12 .un .un .un) (hX l H W X (lx1 l H (f1 H++W) [35] [39,34] [34] [92] (wcOf (mkH H)) false)++[lc (f1 H)])=.next (LA is l H W X x o12 .un .un .un) (hX l H W X (lx1 l H (f1 H++W) (f2 H++X) [39,34] [34] [92] (wcOf (mkH H)) false)++[lc (f1 H)]++[lc (f2 H)]) :=
  asgA_ok (bin_ok (comp_ro (s:=hX l H W X (lx1 l H (f1 H++W) [35] [39,34] [34] [92] (wcOf (mkH H)) false)++[lc (f1 H)]) (ro:=H.ro) (RL:=RLo H) (S:=[4,15]) rfl (loc_cel rfl rfl) rfl rfl look_ro (low_lc (lowX (n:=22) (by decide)) _) (by decide) (fun _ _=>rfl) (by decide)) (loc_val rfl) (addStr (Nat.le_trans (Nat.add_le_add (flt_len _ _) lX) (by decide)))) (loc_val rfl) rfl
theorem st15 {cf:Nat→List V→List AO→R V} (lW:W.length ≤ 2) (lX:X.length ≤ 2):execS tab cf 1000 (.asgA (.loc 13) 8 (.bm .join (.lit (.str [])) (.cons (.comp (.loc 3) [none,none,some 4] 1 (.cons (.cmp .in_ (.idx (.loc 2) (.loc 1)) (.list (.cons (.lit (.int 5)) (.cons (.lit (.int 6)) (.cons (.lit (.int 9)) (.cons (.lit (.int 10)) (.cons (.lit (.int 12)) .nil))))))) .nil) (.loc 1)) .nil))) (LA is l H W X x o12 .un .un .un) (hX l H W X (lx1 l H (f1 H++W) (f2 H++X) [39,34] [34] [92] (wcOf (mkH H)) false)++[lc (f1 H)]++[lc (f2 H)])=.next (LA is l H W X x o12 .un .un .un) (hX l H W X (lx1 l H (f1 H++W) (f2 H++X) (f3 H) [34] [92] (wcOf (mkH H)) false)++[lc (f1 H)]++[lc (f2 H)]++[lc (f3 H)]) :=
  asgA_ok (comp_ro (s:=hX l H W X (lx1 l H (f1 H++W) (f2 H++X) [39,34] [34] [92] (wcOf (mkH H)) false)++[lc (f1 H)]++[lc (f2 H)]) (ro:=H.ro) (RL:=RLo H) (S:=[5,6,9,10,12]) rfl (loc_cel rfl rfl) rfl rfl look_ro (low_lc (low_lc (lowX (n:=23) (by decide)) _) _) (by decide) (fun _ _=>rfl) (by decide)) (loc_val rfl) rfl
theorem st16 {cf:Nat→List V→List AO→R V} (lW:W.length ≤ 2) (lX:X.length ≤ 2):execS tab cf 1000 (.asgA (.loc 13) 10 (.bm .join (.lit (.str [])) (.cons (.comp (.loc 3) [none,none,some 4] 1 (.cons (.cmp .in_ (.idx (.loc 2) (.loc 1)) (.list (.cons (.lit (.int 6)) (.cons (.lit (.int 10)) .nil)))) .nil) (.loc 1)) .nil))) (LA is l H W X x o12 .un .un .un) (hX l H W X (lx1 l H (f1 H++W) (f2 H++X) (f3 H) [34] [92] (wcOf (mkH H)) false)++[lc (f1 H)]++[lc (f2 H)]++[lc (f3 H)])=.next (LA is l H W X x o12 .un .un .un) (hX l H W X (lx1 l H (f1 H++W) (f2 H++X) (f3 H) (f4 H) [92] (wcOf (mkH H)) false)++[lc (f1 H)]++[lc (f2 H)]++[lc (f3 H)]++[lc (f4 H)]) :=
  asgA_ok (comp_ro (s:=hX l H W X (lx1 l H (f1 H++W) (f2 H++X) (f3 H) [34] [92] (wcOf (mkH H)) false)++[lc (f1 H)]++[lc (f2 H)]++[lc (f3 H)]) (ro:=H.ro) (RL:=RLo H) (S:=[6,10]) rfl (loc_cel rfl rfl) rfl rfl look_ro (low_lc (low_lc (low_lc (lowX (n:=24) (by decide)) _) _) _) (by decide) (fun _ _=>rfl) (by decide)) (loc_val rfl) rfl
theorem st17 {cf:Nat→List V→List AO→R V} (lW:W.length ≤ 2) (lX:X.length ≤ 2):execS tab cf 1000 (.asgA (.loc 13) 9 (.bm .join (.lit (.str [])) (.cons (.comp (.loc 3) [none,none,some 4] 1 (.cons (.cmp .in_ (.idx (.loc 2) (.loc 1)) (.list (.cons (.lit (.int 7)) (.cons (.lit (.int 11)) (.cons (.lit (.int 13)) .nil))))) .nil) (.loc 1)) .nil))) (LA is l H W X x o12 .un .un .un) (hX l H W X (lx1 l H (f1 H++W) (f2 H++X) (f3 H) (f4 H) [92] (wcOf (mkH H)) false)++[lc (f1 H)]++[lc (f2 H)]++[lc (f3 H)]++[lc (f4 H)])=.next (LA is l H W X x o12 .un .un .un) (hX l H W X (lx1 l H (f1 H++W) (f2 H++X) (f3 H) (f4 H) (f5 H) (wcOf (mkH H)) false)++[lc (f1 H)]++[lc (f2 H)]++[lc (f3 H)]++[lc (f4 H)]++[lc (f5 H)]) :=
  asgA_ok (comp_ro (s:=hX l H W X (lx1 l H (f1 H++W) (f2 H++X) (f3 H) (f4 H) [92] (wcOf (mkH H)) false)++[lc (f1 H)]++[lc (f2 H)]++[lc (f3 H)]++[lc (f4 H)]) (ro:=H.ro) (RL:=RLo H) (S:=[7,11,13]) rfl (loc_cel rfl rfl) rfl rfl look_ro (low_lc (low_lc (low_lc (low_lc (lowX (n:=25) (by decide)) _) _) _) _) (by decide) (fun _ _=>rfl) (by decide)) (loc_val rfl) rfl
theorem st18 {cf:Nat→List V→List AO→R V} (lW:W.length ≤ 2) (lX:X.length ≤ 2):execS tab cf 1000 (.asgA (.loc 13) 5 (.bm .join (.lit (.str [])) (.cons (.comp (.loc 3) [none,none,some 4] 1 (.cons (.cmp .in_ (.idx (.loc 2) (.loc 1)) (.list (.cons (.lit (.int 1)) (.cons (.lit (.int 8)) (.cons (.lit (.int 12)) (.cons (.lit (.int 13)) .nil)))))) .nil) (.loc 1)) .nil))) (LA is l H W X x o12 .un .un .un) (hX l H W X (lx1 l H (f1 H++W) (f2 H++X) (f3 H) (f4 H) (f5 H) (wcOf (mkH H)) false)++[lc (f1 H)]++[lc (f2 H)]++[lc (f3 H)]++[lc (f4 H)]++[lc (f5 H)])=.next (LA is l H W X x o12 .un .un .un) (hX l H W X (lx1 l H (f1 H++W) (f2 H++X) (f3 H) (f4 H) (f5 H) (f6 H) false)++[lc (f1 H)]++[lc (f2 H)]++[lc (f3 H)]++[lc (f4 H)]++[lc (f5 H)]++[lc (f6 H)]) :=
  asgA_ok (comp_ro (s:=hX l H W X (lx1 l H (f1 H++W) (f2 H++X) (f3 H) (f4 H) (f5 H) (wcOf (mkH H)) false)++[lc (f1 H)]++[lc (f2 H)]++[lc (f3 H)]++[lc (f4 H)]++[lc (f5 H)]) (ro:=H.ro) (RL:=RLo H) (S:=[1,8,12,13]) rfl (loc_cel rfl rfl) rfl rfl look_ro (low_lc (low_lc (low_lc (low_lc (low_lc (lowX (n:=26) (by decide)) _) _) _) _) _) (by decide) (fun _ _=>rfl) (by decide)) (loc_val rfl) rfl
theorem st19 {cf:Nat→List V→List AO→R V} (lW:W.length ≤ 2) (lX:X.length ≤ 2):execS tab cf 1000 (.asgA (.loc 13) 7 (.loc 6)) (LA is l H W X x o12 .un .un .un) (hX l H W X (lx1 l H (f1 H++W) (f2 H++X) (f3 H) (f4 H) (f5 H) (f6 H) false)++[lc (f1 H)]++[lc (f2 H)]++[lc (f3 H)]++[lc (f4 H)]++[lc (f5 H)]++[lc (f6 H)])=.next (LA is l H W X x o12 .un .un .un) (preX l H W X) :=
  asgA_ok (loc_val rfl) (loc_val rfl) rfl
theorem lawB (hok:H.Ok) (hl:l.length ≤ 160) (lW:W.length ≤ 2) (lX:X.length ≤ 2):∃ s,execs tab (callF tab 1000 (d+7)) 1000 rest12 (LA is l H W X x .un .un .un .un) (M12 l H W X)=.ret (.bool true) s:=by
  have htl:(txt l).length ≤ 160:=by unfold txt; rw [List.length_map]; exact src_len hl
  have htK:(txt l).length < 1000:=Nat.lt_of_le_of_lt htl (by decide)
  have hS:∀ c ∈ txt l,Sg (par2 H W X (spl H)) H.ro (H.ou W X) c:=fun c m=>sg_of hok (txt_mem c m)
  obtain ⟨T,e,k1,k2,k3,k4,k5⟩:=read_eval (K:=1000) (d:=d+4) (pre_hr (l:=l) (H:=H) (W:=W) (X:=X)) (Nat.le_trans htl (by decide)) htK hS (sp:=spl H) rfl (flt_no rfl)
  have s20:execS tab (callF tab 1000 (d+7)) 1000 (.unp [14,15] (.callF 5 (.cons (.loc 11) (.cons (.loc 4) (.cons (.loc 9) (.cons (.loc 6) .nil)))))) (LA is l H W X x o12 .un .un .un) (preX l H W X)=.next (LA is l H W X x o12 (.val (.obj 26)) (.val e) .un) (hv (preX l H W X) T) :=
    unp_ok rfl (callF_ok (es_cons (loc_val rfl) (es3 (loc_cel rfl rfl) (loc_val rfl) (loc_val rfl))) k1) rfl rfl
  have s21:execS tab (callF tab 1000 (d+7)) 1000 (.asg 16 (.list .nil)) (LA is l H W X x o12 (.val (.obj 26)) (.val e) .un) (hv (preX l H W X) T)=.next (lf (oX is l H W X x e) .un .un) (hp (gf (gX l H W X T) []) (lxE l H W X)):=rfl
  have hc:(decide ((0:Int) ≤ ((txt l).length:Int)+2)&&decide (((txt l).length:Int)+2 ≤ 100000))=true:=by
    rw [decide_eq_true (by omega),decide_eq_true (by omega)]
    rfl
  have ok:=lx_ok (l:=l) (W:=W) (X:=X) hok htl
  obtain ⟨σ',a,hloop⟩:=found_loop (g:=gX l H W X T) (K:=1000) (d:=d+2) (o:=oX is l H W X x e) (P:=par2 H W X (spl H)) (n:=(txt l).length+2) (N:=(txt l).length) htK (Nat.lt_of_le_of_lt htl (by decide)) ((txt l).length+2) 0 1000 (lxE l H W X) [] .un (fun m=>foundL (par2 H W X (spl H)) m (txt l)) (Nat.zero_add _) (by omega) ok rfl
    (.go (txt l) rfl rfl (Nat.le_refl _) ⟨0,rfl,Nat.zero_le _,.inl ⟨rfl,rfl⟩⟩) (by show 0+((txt l).length+2) ≤ 10000; omega) Fr.u
  have s22:execS tab (callF tab 1000 (d+7)) 1000 (.for_ 17 (.bi .range (.cons (.bin .add (.bi .len (.cons (.loc 11) .nil)) (.lit (.int 2))) .nil)) b14_7) (lf (oX is l H W X x e) .un .un) (hp (gf (gX l H W X T) []) (lxE l H W X))=.next (lf (oX is l H W X x e) a .un) (hp (gf (gX l H W X T) (foundL (par2 H W X (spl H)) ((txt l).length+2) (txt l))) σ'):=by
    have e1:evalE tab (callF tab 1000 (d+7)) 1000 (lf (oX is l H W X x e) .un .un) false (.bi .range (.cons (.bin .add (.bi .len (.cons (.loc 11) .nil)) (.lit (.int 2))) .nil)) (hp (gf (gX l H W X T) []) (lxE l H W X))=.ok (.rng (((txt l).length:Int)+2)) (hp (gf (gX l H W X T) []) (lxE l H W X)):=by
      have e0:∀ s:List AO,biOp s .range [.int (((txt l).length:Int)+2)]=(if (decide ((0:Int) ≤ ((txt l).length:Int)+2)&&decide (((txt l).length:Int)+2 ≤ 100000))=true then (R.ok (V.rng (((txt l).length:Int)+2)) s:R V) else R.fail):=by intro s; kernel_rfl
      exact len_ok rfl (es1 (bin_ok (len_ok rfl (es1 (loc_val rfl)) rfl) lit_ok rfl)) ((e0 _).trans (if_pos hc))
    refine (for_ev e1 ?_).trans hloop
    unfold srcOf
    dsimp only
    rw [if_pos hc]
    rfl
  have hF:=k3 ((txt l).length+2 - T.length)
  rw [show T.length+((txt l).length+2 - T.length)=(txt l).length+2 from by omega,List.drop_zero] at hF
  obtain ⟨s,hs⟩:=law_end (K:=1000) (is:=is) (x:=x) (W:=W) (X:=X) (H:=H) (l:=l) (T:=T) (e:=e) (σ:=σ') (a17:=a) (cf:=callF tab 1000 (d+7)) (by omega) htl hF (found_eq _ _ _)
  refine ⟨s,?_⟩
  rw [seq_next st12,seq_next (st13 lW lX),seq_next (st14 lW lX),seq_next (st15 lW lX),seq_next (st16 lW lX),seq_next (st17 lW lX),seq_next (st18 lW lX),seq_next (st19 lW lX),seq_next s20,seq_next s21,seq_next s22]
  exact hs
theorem law_ne (hne:is ≠ []):callF tab 1000 8 14 [.lst (is.map .int)] []=.ok (.bool true) []:=by
  obtain ⟨l,H,W,X,x,hl,hok,lW,lX,h1⟩:=lawA (d:=6) hne
  obtain ⟨s,h2⟩:=lawB (d:=0) (is:=is) (x:=x) hok hl lW lX
  have e:callF tab 1000 8 14 [.lst (is.map .int)] []=endCall 0 (execs tab (callF tab 1000 7) 1000 b14_8 (lg is .un .un .un .un .un .un .un .un .un .un .un .un .un .un) cn2):=by kernel_rfl
  rw [e,h1,h2]
  show leave 0 (.bool true) s=_
  unfold leave
  split
  · rename_i h
    rw [List.eq_nil_of_length_eq_zero (beq_iff_eq.mp h)]
  · rfl
end
theorem law_nil:callF tab 1000 8 14 [.lst []] []=.ok (.bool true) []:=by kernel_rfl
theorem law_holds {is:List Int}:callF tab 1000 8 14 [.lst (is.map .int)] []=.ok (.bool true) []:=by
  cases is with
  | nil=>exact law_nil
  | cons a r=>exact law_ne (fun e=>nomatch e)
end Mine.L2
end
section
open PySem PySem.W PySem.Calls PyProof.Rows
set_option backward.match.sparseCases false
set_option maxHeartbeats 4000000
set_option tactic.hygienic false
namespace Mine.L2
open Mine
noncomputable def an:List Str:=["instream","infile","posix","eof","commenters","wordchars","whitespace","whitespace_split","quotes","escape","escapedquotes","state","pushback","lineno","debug","token","filestack","source","_punctuation_chars","_pushback_chars","punctuation_chars","_StringIO__newline","_StringIO__buf","_StringIO__pos","_StringIO__check","_StringIO__translated","_StringIO__line","read","readline","get_token","read_token"]
noncomputable def fnm:List Str:=["_index","_law_figures","_index","_law_word","_index","_law_reading","_law_inside","_index","_index","_index","_index","_index","_index","_index","law"]
noncomputable def nmT:Nm:=⟨an,fnm,["shlex","StringIO"]⟩
noncomputable def adT:Nat→Option Addr
  | 0=>some 53 | 1=>some 733 | 3=>some 747 | 5=>some 754 | 6=>some 740 | 14=>some 759 | 15=>some 646 | 16=>some 653 | 17=>some 683 | 18=>some 690
  | 19=>some 357 | 20=>some 364 | 21=>some 371 | 22=>some 385 | 23=>some 533 | 24=>some 541 | _=>none
noncomputable def clT:Nat→Option Addr
  | 0=>some 722 | 1=>some 587 | _=>none
theorem clT_spec (c:Nat) (Ca:Addr) (h:clT c=some Ca):(c=0∧Ca=722) ∨ (c=1∧Ca=587):=by
  unfold clT at h
  split at h
  · cases h; exact .inl ⟨rfl,rfl⟩
  · cases h; exact .inr ⟨rfl,rfl⟩
  · cases h
theorem yes_fn {P:Nat→Fn→Prop} {n:Nat} {a b:Fn} (e:some a=some b) (h:P n a):P n b:=Option.some.inj e ▸ h
theorem no_fn {p:Prop} {b:Fn} (e:none=some b):p:=nomatch e
theorem tab_fns {P:Nat→Fn→Prop} (h0:P 0 fn0) (h1:P 1 fn1) (h3:P 3 fn3) (h5:P 5 fn5) (h6:P 6 fn6) (h14:P 14 fn14) (h15:P 15 fn15) (h16:P 16 fn16) (h17:P 17 fn17) (h18:P 18 fn18)
    (h19:P 19 fn19) (h20:P 20 fn20) (h21:P 21 fn21) (h22:P 22 fn22) (h23:P 23 fn23) (h24:P 24 fn24) (g:Nat) (fn:Fn) (e:tab.fns g=some fn):P g fn:=by
  rcases g with _ | g
  · exact yes_fn e h0
  rcases g with _ | g
  · exact yes_fn e h1
  rcases g with _ | g
  · exact no_fn e
  rcases g with _ | g
  · exact yes_fn e h3
  rcases g with _ | g
  · exact no_fn e
  rcases g with _ | g
  · exact yes_fn e h5
  rcases g with _ | g
  · exact yes_fn e h6
  rcases g with _ | g
  · exact no_fn e
  rcases g with _ | g
  · exact no_fn e
  rcases g with _ | g
  · exact no_fn e
  rcases g with _ | g
  · exact no_fn e
  rcases g with _ | g
  · exact no_fn e
  rcases g with _ | g
  · exact no_fn e
  rcases g with _ | g
  · exact no_fn e
  rcases g with _ | g
  · exact yes_fn e h14
  rcases g with _ | g
  · exact yes_fn e h15
  rcases g with _ | g
  · exact yes_fn e h16
  rcases g with _ | g
  · exact yes_fn e h17
  rcases g with _ | g
  · exact yes_fn e h18
  rcases g with _ | g
  · exact yes_fn e h19
  rcases g with _ | g
  · exact yes_fn e h20
  rcases g with _ | g
  · exact yes_fn e h21
  rcases g with _ | g
  · exact yes_fn e h22
  rcases g with _ | g
  · exact yes_fn e h23
  rcases g with _ | g
  · exact yes_fn e h24
  exact no_fn e
theorem lawTab:LawTab nmT tab adT clT 722 587 646 357 where
  cn:=rfl
  hd:=rfl
  cls:=clT_spec
  c0:=rfl
  c1:=rfl
  i0 g fn e1 e2:=by
    cases e1
    cases e2
    exact ⟨rfl,rfl⟩
  i1 g fn e1 e2:=by
    cases e1
    cases e2
    exact ⟨rfl,rfl,rfl⟩
theorem pos_law:posOf "law" nmT.fn 0=some 14:=by kernel_rfl
end Mine.L2
end
section
open PySem PySem.W PyProof.Rows
set_option backward.match.sparseCases false
set_option maxHeartbeats 8000000
namespace Mine.L2
noncomputable abbrev lwR:=PySem.Challenge.rw_io0018_02
noncomputable abbrev lp:Program:=lwR.row.prog
theorem uz0:sreFenced lp.main=true:=by kernel_rfl
theorem uz1:((moduleNames lp.main.body).isEmpty || lookedIntoSs (moduleNames lp.main.body) lp.main.body)=true:=by kernel_rfl
theorem uz2:namesResolve lp=true:=by kernel_rfl
theorem uz3:lp.boundNames.all (fun n=>!worldNames.contains n)=true:=by kernel_rfl
theorem uz4:(!(importedModules lp.main.body).all cThrough.contains)=false:=by kernel_rfl
theorem uzv:readsOut lp lp.main.body "vars"=false:=by kernel_rfl
theorem uzd:readsOut lp lp.main.body "dir"=false:=by kernel_rfl
theorem uzl:readsOut lp lp.main.body "locals"=false:=by kernel_rfl
theorem uz5:(["vars","dir","locals"]:List Str).filter (readsOut lp lp.main.body)=[]:=by
  rw [List.filter_cons_of_neg (by rw [uzv]; exact Bool.false_ne_true),List.filter_cons_of_neg (by rw [uzd]; exact Bool.false_ne_true),List.filter_cons_of_neg (by rw [uzl]; exact Bool.false_ne_true)]
  rfl
theorem uz6:noRoadLSs { strict:=false,foot:=none,bare:=[] } lp.main.body=true:=by kernel_rfl
theorem uz7:(namesMeet lp lp.main.body fun _ n=>attrL n)=true:=by kernel_rfl
theorem uzz:looksOpen lp=true:=looks_of uz0 uz1 uz2 uz3 uz4 uz5 uz6 uz7
theorem partSaid:lwR.row.partSaid=true:=by
  unfold OpenRow.partSaid
  with_reducible repeat' apply look_both
  exact uzz
  all_goals kernel_rfl
theorem rowSaid:lwR.row.wellSaid=true:=look_both (look_both partSaid (by kernel_rfl)) (by kernel_rfl)
theorem lawSaid:lwR.wellSaid=true:=by
  unfold OpenLaw.wellSaid
  with_reducible repeat' apply look_both
  exact rowSaid
  all_goals kernel_rfl
end Mine.L2
end
section
open PySem PySem.W PySem.Calls PyProof.Rows
set_option backward.match.sparseCases false
set_option maxHeartbeats 8000000
set_option tactic.hygienic false
namespace Mine.L2
open Mine
noncomputable def asT:List Nat:=[2,3,52,53,732,733,739,740,746,747,753,754,758,759,645,646,639,652,653,654,682,683,689,690,356,357,350,363,364,370,371,384,385,532,533,526,540,541,534,79,80,82,83,84,109,110,586,587,721,722,340,339]
noncomputable def gsT:List Nat:=[0,1,3,5,6,14,15,16,17,18,19,20,21,22,23,24]
theorem gsT_spec (g:Nat) (fn:Fn) (e:tab.fns g=some fn):g ∈ gsT:=tab_fns (P:=fun g _=>g ∈ gsT) (by decide) (by decide) (by decide) (by decide) (by decide) (by decide) (by decide) (by decide) (by decide) (by decide) (by decide) (by decide) (by decide) (by decide) (by decide) (by decide) g fn e
noncomputable abbrev pT:Program:=PySem.Challenge.pw_io0018_02
noncomputable def qT:Program:=view pT [25]
noncomputable def looseT:List Str:=["deque","_wall","_whence","_index","UnsupportedOperation","IOBase","BufferedIOBase","TextIOBase","BytesIO","StringIO","_kind","_fspath","_check_arg_types","isabs","join","dirname","shlex","_law_figures","_law_inside","_law_word","_law_reading"]
noncomputable def yfT:Shared→Bool × List (Option Fn):=lawYf asT nmT 200 tab adT gsT 722 587 340 84 80 646 357
noncomputable abbrev stQ:=PySem.W.Fast.tw10156331382660048174
noncomputable abbrev denQ:=PySem.W.Fast.tw11892475500146522536 PySem.W.Fast.tw14364793385576792824
noncomputable abbrev exQ:=PySem.W.Fast.tw3805553451399329143
noncomputable abbrev okQ:=PySem.W.Fast.tw6613529449190102663
noncomputable abbrev staQ:=PySem.W.Fast.tw1435165496053646825
noncomputable abbrev snQ:=PySem.W.Fast.tw4187177175401517315
theorem st_eq:stepT=stQ:=PySem.W.Fast.te10156331382660048174
theorem den_eq:denote treeTable=denQ:=by rw [PySem.W.Fast.te11892475500146522536,PySem.W.Fast.te14364793385576792824]
theorem ex_eq:Thread.atExitBegin=exQ:=PySem.W.Fast.te3805553451399329143
theorem ok_eq:stepOk=okQ:=PySem.W.Fast.te6613529449190102663
theorem sta_eq:start=staQ:=PySem.W.Fast.te1435165496053646825
theorem sn_eq:openSeen=snQ:=PySem.W.Fast.te4187177175401517315
noncomputable abbrev xtT:Shared→Bool:=fun s=>recOk [] s
noncomputable abbrev yaT:Bool × List (Option Fn):=(true,gsT.map tab.fns)
theorem runT:∀ w,(topG stQ denQ exQ okQ staQ pT w 9000).map (lookG snQ pT qT looseT xtT true yfT)=some (true,openGood qT looseT,yaT):=by
  intro w; kernel_rfl
theorem leftT:LeftO pT qT looseT xtT yfT (fun _=>yaT) 9000:=left_of fun w=>by
  rw [st_eq,den_eq,ex_eq,ok_eq,sta_eq,sn_eq]
  exact runT w
end Mine.L2
end
section
open PySem PySem.W PyProof.Rows
set_option maxHeartbeats 8000000
theorem PySem.Challenge.cw_io0018_02_holds : PySem.Challenge.rw_io0018_02.Holds := by
  refine holds_law Mine.L2.lawSaid fun said=>?_
  have hd:(defOf Mine.L2.qT "law").isSome=true:=by kernel_rfl
  obtain ⟨⟨d,kwd⟩,hdef⟩:=Option.isSome_iff_exists.mp hd
  have h1:(defOf Mine.L2.qT "law").map (fun x=>(x.1.params,x.1.body,x.1.scope))=Mine.L2.pT.theDef "law":=by kernel_rfl
  have h2:(defOf Mine.L2.qT "law").bind (fun x=>kwWritten? x.1.params.kwonlyargs x.1.params.kw_defaults)=(defOf Mine.L2.qT "law").map (·.2):=by kernel_rfl
  rw [hdef] at h1 h2
  refine holds_open (r:=PySem.Challenge.rw_io0018_02.row) (q:=Mine.L2.qT) (loose:=Mine.L2.looseT) (Xt:=Mine.L2.xtT) (XP:=fun _ _=>True) (Yf:=Mine.L2.yfT) (Ya:=fun _=>Mine.L2.yaT)
    (YP:=fun w h=>∃ K:Frag,K.In h∧Mine.LawOk K Mine.L2.nmT 200 Mine.L2.tab Mine.L2.adT 722 587 340 84 80 646 357) (d:=d) (kwd:=kwd) (N:=9000)
    Mine.L2.leftT (fun w s e=>⟨_,Mine.frag_in _ _,Mine.lawYf_spec e Mine.L2.gsT_spec⟩) (fun w h h' ⟨K,k1,k2⟩ hk=>⟨K,k1.keeps hk,k2⟩) (fun _ _=>trivial) (fun _ _ _ _ _=>trivial) hdef h1.symm h2 (fun s e=>recFacts_of e) rfl said (by kernel_rfl) ⟨rfl,rfl,rfl,rfl,rfl,by decide +kernel⟩ ?hw ?call
  case hw=>w_witness2
  case call =>
    intro w s₀ s₁ mg mb G Y fa o pm cd doc dV kV ho hd hcd hD hmg hg args vals as hpre hlay hrd hwl hlo
    obtain ⟨K,KX,ok⟩:=Y
    refine Ground.open G ?_
    intro T B D TE TW
    wrow_args hpre hlay hrd hwl hlo
    all_goals (
      first | refine callC_kw (enter_call ?_) | refine enter_call ?_ | refine callC_kw (enter_callW ?_) | refine enter_callW ?_ | w_how
      w_top on
      try refine codeAny_mono ?_ (fun _ _ g=>GoodW.toG g))
    rename_i is _ _ _ _ _ _ _ _ _ _ _ _ wl _ _ _ hlen _
    have hlen:is.length ≤ 63:=by omega
    have hn:d.name="law":=defOf_name hdef
    rw [hn] at hmg
    refine Mine.law_go (n:=200) (Kn:=1000) (d:=8) KX ok Mine.L2.lawTab T.g T.b T.builtins T.nolimit (T.seer (by kernel_rfl)) hmg Mine.L2.pos_law (fn:=Mine.L2.fn14) rfl Mine.L2.law_holds ⟨by decide,by decide⟩ rfl rfl wl hlen ?q
    case q =>
      intro h' tk k
      refine ⟨.inl ⟨_,_,_,rfl,raisesW_false ?_,.bool true,?_,fun _=>⟨List.nodup_nil,fun a m=>nomatch m⟩⟩,k,rfl,hg⟩
      · wrow_none_raised
      · wrow_post
end
