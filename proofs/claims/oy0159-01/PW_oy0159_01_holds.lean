import PyProof.Rows.All
import Wide.All
import OpenK.AllK
import Wide.FinOn
import PySem.Challenge.RW_oy0159_01
set_option Elab.async false
set_option maxRecDepth 100000
set_option linter.unusedVariables false
namespace Mine
open PySem PySem.Calls PyProof.Rows
theorem kO{p:Prop}(h:p:=by omega):p:=h
theorem kD{p:Prop}(h:p:=by decide):p:=h
theorem nL{n:Nat}:n≤n:=Nat.le_refl n
theorem kR{p:Prop}(h:p:=by kernel_rfl):p:=h
def zmr:= @List.mem_append_right
def zbs:= @Option.bind_eq_some_iff
def zmS:= @List.mem_cons_self
def zmC:= @List.mem_cons_of_mem
def zmL:= @List.mem_append_left
def zpO:= @Heap.get?_push_of_some
def znT:= @Nat.le_trans
def zcon:= @List.mem_cons
def zapp:= @List.mem_append
def zmap:= @List.mem_map
def zfil:= @List.mem_filter
def znco:= @List.nodup_cons
def zran:= @List.mem_range
inductive D where
 |none
 |bool (b:Bool)
 |int (i:Int)
 |str (s:Str)
 |list (l:List D)
 |tup (l:List D)
 |dictS (l:List (Str×D))
 |dictI (l:List (Int×D))
 |rng (a b:Int)
 |opq (v:Value)
 |lref (a:Addr) (l:List D)
abbrev HV:=Addr→Option Obj
def lstO(vs:List Value)(n:Nat):Obj:={ cls:= .type "list",data:= .seq vs.toArray n }
def tupO(vs:List Value)(n:Nat):Obj:={ cls:= .type "tuple",data:= .seq vs.toArray n }
section
variable(prog:Program)(w:World)
mutual
inductive R (H:HV):Value→D→Prop
 |none:R H Value.none D.none
 |bool (b:Bool):R H (Value.bool b) (D.bool b)
 |int (i:Int) (t:Tok):R H (Value.int i t) (D.int i)
 |str (x:Str) (t:Tok):R H (Value.str x t) (D.str x)
 |list {a:Addr} {vs:List Value} {n:Nat} {ds:List D}:H a=some (lstO vs n)→Rs H vs ds→R H (Value.ref a) (D.list ds)
 |tup {a:Addr} {vs:List Value} {n:Nat} {ds:List D}:H a=some (tupO vs n)→Rs H vs ds→R H (Value.ref a) (D.tup ds)
 |dictS {a:Addr} {o:Obj} {ks:List Str} {vs:List Value} {ds:List D}:H a=some o→o.IsDictOf (strKind prog w) (ks.zip vs)→ks.length=vs.length→Rs H vs ds→a≠sysModules→R H (Value.ref a) (D.dictS (ks.zip ds))
 |dictI {a:Addr} {o:Obj} {ks:List Int} {vs:List Value} {ds:List D}:H a=some o→o.IsDictOf (intKind prog w) (ks.zip vs)→ks.length=vs.length→Rs H vs ds→a≠sysModules→R H (Value.ref a) (D.dictI (ks.zip ds))
 |rng {r:Addr} {a b:Int} {t u v:Tok}:H r=some { cls:= .type "range",data:= .fields #[.int a t,.int b u,.int 1 v] }→R H (Value.ref r) (D.rng a b)
 |opq (v:Value):R H v (D.opq v)
 |lref {a:Addr} {vs:List Value} {n:Nat} {ds:List D}:H a=some (lstO vs n)→Rs H vs ds→R H (Value.ref a) (D.lref a ds)
inductive Rs (H:HV):List Value→List D→Prop
 |nil:Rs H [] []
 |cons {v:Value} {vs:List Value} {d:D} {ds:List D}:R H v d→Rs H vs ds→Rs H (v::vs) (d::ds)
end
end
section
variable{prog:Program}{w:World}{H H':HV}
mutual
theorem R.mono(hs:∀a o,H a=some o→H' a=some o):∀{v:Value} {d:D},R prog w H v d→R prog w H' v d
 |_,_,.none=> .none
 |_,_,.bool b=> .bool b
 |_,_,.int i t=> .int i t
 |_,_,.str x t=> .str x t
 |_,_,.list h r=> .list (hs _ _ h) (Rs.mono hs r)
 |_,_,.tup h r=> .tup (hs _ _ h) (Rs.mono hs r)
 |_,_,.dictS h i l r ne=> .dictS (hs _ _ h) i l (Rs.mono hs r) ne
 |_,_,.dictI h i l r ne=> .dictI (hs _ _ h) i l (Rs.mono hs r) ne
 |_,_,.rng h=> .rng (hs _ _ h)
 |_,_,.opq v=> .opq v
 |_,_,.lref h r=> .lref (hs _ _ h) (Rs.mono hs r)
theorem Rs.mono(hs:∀a o,H a=some o→H' a=some o):∀{vs:List Value} {ds:List D},Rs prog w H vs ds→Rs prog w H' vs ds
 |_,_,.nil=> .nil
 |_,_,.cons h r=> .cons (R.mono hs h) (Rs.mono hs r)
end
variable{vs ws:List Value}{ds es:List D}{v:Value}{d:D}
theorem Rs.length:∀{vs:List Value} {ds:List D},Rs prog w H vs ds→vs.length=ds.length
 |_,_,.nil=>rfl
 |_,_,.cons _ r=>by rw[List.length_cons,List.length_cons,Rs.length r]
theorem Rs.append:∀{vs:List Value} {ds:List D},Rs prog w H vs ds→Rs prog w H ws es→Rs prog w H (vs++ws) (ds++es)
 |_,_,.nil,k=>k
 |_,_,.cons h r,k=> .cons h (Rs.append r k)
theorem Rs.get:∀{vs:List Value} {ds:List D},Rs prog w H vs ds→∀{k:Nat} {d:D},ds[k]? =some d→∃v,vs[k]? =some v∧R prog w H v d
 |_,_,.nil,k,d,e=>by simp at e
 |_,_,.cons h r,0,d,e=>by
  simp at e;subst e;exact⟨_,rfl,h⟩
 |_,_,.cons h r,k+1,d,e=>by
  simp at e
  obtain⟨v,hv,hr⟩:=Rs.get r e
  exact⟨v,by simpa using hv,hr⟩
theorem Rs.getV:∀{vs:List Value} {ds:List D},Rs prog w H vs ds→∀{k:Nat} {v:Value},vs[k]? =some v→∃d,ds[k]? =some d∧R prog w H v d
 |_,_,.nil,k,d,e=>by simp at e
 |_,_,.cons h r,0,d,e=>by
  simp at e;subst e;exact⟨_,rfl,h⟩
 |_,_,.cons h r,k+1,d,e=>by
  simp at e
  obtain⟨v,hv,hr⟩:=Rs.getV r e
  exact⟨v,by simpa using hv,hr⟩
end
def D.flat:D→D
 | .lref _ l=> .list l
 |d=>d
theorem R.flat{prog:Program}{w:World}{H:HV}{v:Value}{d:D}(h:R prog w H v d):R prog w H v d.flat:=by
 cases h with
 |lref h r=>exact .list h r
 |none=>exact .none
 |bool b=>exact .bool b
 |int i t=>exact .int i t
 |str x t=>exact .str x t
 |list h r=>exact .list h r
 |tup h r=>exact .tup h r
 |dictS h i l r ne=>exact .dictS h i l r ne
 |dictI h i l r ne=>exact .dictI h i l r ne
 |rng h=>exact .rng h
 |opq v=>exact .opq v
def view(h:Heap)(Y:List Addr):HV:=fun a=>if a∈Y then none else h.get? a
theorem view_get{h:Heap}{Y:List Addr}{a:Addr}{o:Obj}(e:view h Y a=some o):h.get? a=some o∧a∉Y:=by
 unfold view at e;split at e
 ·cases e
 ·exact⟨e,‹_›⟩
theorem view_of{h:Heap}{Y:List Addr}{a:Addr}{o:Obj}(e:h.get? a=some o)(n:a∉Y):view h Y a=some o:=by
 unfold view;rw[if_neg n];exact e
structure Fn where
 params:Arguments
 body:List Stmt
 scope:Scope
def Fn.names(f:Fn):List Str:=f.params.args.map (·.arg)
def plainP(p:Arguments):Bool:=p.posonlyargs.isEmpty&&p.kwonlyargs.isEmpty&&p.vararg.isNone&&p.kwarg.isNone&&decide ((p.args.map (·.arg)).Nodup)
def okFn(f:Fn):Bool:=plainP f.params&& !f.scope.isCoroutine&& !f.scope.isGenerator&&decide (f.scope.kind= .function)&&f.names.all (fun x=>decide (f.scope.names.lookup x=some .local∨f.scope.names.lookup x=some .cell))&&f.scope.names.all (fun p=>decide (p.2≠.free))
inductive Fl where
 |next|brk|cont
 |ret (d:D)
 |exc (cls:Str) (d:D)
inductive B where
 |val (d:D)
 |own (l:List D)
abbrev Loc:=Str→Option D
abbrev LocB:=Str→Option B
def purL(l:LocB):Loc:=fun x=>match l x with|some (.val d)=>some d|_=>none
def allL(l:LocB):Loc:=fun x=>match l x with|some (.val d)=>some d|some (.own l)=>some (.list l)|none=>none
def setL{α:Type}(l:Str→Option α)(x:Str)(a:α):Str→Option α:=fun y=>if y=x then some a else l y
def mutNames:List Str:=["talk","made","seen","perm","result"]
def ownSc(outer sc:Scope):Scope:={ sc with names:=sc.names.map fun(n,k)=>if (k== .free&&outer.kind== .function&&outer.names.lookup n==some .cell)=true then (n,.cell) else (n,k) }
def compLoc(sc:Scope)(l:Loc):Loc:=fun x=>if sc.names.lookup x=some .free then l x else none
mutual
def D.beq:D→D→Bool
 | .int a,.int b=>a==b
 | .str a,.str b=>a==b
 | .list a,.list b=>D.beqs a b
 | .tup a,.tup b=>D.beqs a b
 |_,_=>false
def D.beqs:List D→List D→Bool
 |[],[]=>true
 |a::r,b::q=>D.beq a b&&D.beqs r q
 |_,_=>false
end
mutual
def D.like:D→D→Bool
 | .int _,.int _=>true
 | .str _,.str _=>true
 | .list a,.list b=>D.likes a b
 | .tup a,.tup b=>D.likes a b
 |_,_=>false
def D.likes:List D→List D→Bool
 |a::r,b::q=>D.like a b&&D.likes r q
 |_,_=>true
end
mutual
def D.dep:D→Nat
 | .list a=>D.deps a+1
 | .tup a=>D.deps a+1
 |_=>0
def D.deps:List D→Nat
 |[]=>0
 |a::r=>max (D.dep a) (D.deps r)
end
def small(a:Int):Bool:=decide (a.natAbs<2 ^ 60)
def lim:Nat:=1000000
def binD:Operator→D→D→Option D
 | .Add,.int a,.int b=>some (.int (a+b))
 | .Sub,.int a,.int b=>some (.int (a - b))
 | .Mult,.int a,.int b=>if small a||small b then some (.int (a * b)) else none
 | .FloorDiv,.int a,.int b=>if b≠0∧b.natAbs<1073741824 then some (.int (a.fdiv b)) else none
 | .Mod,.int a,.int b=>if b≠0 then some (.int (a.fmod b)) else none
 | .Pow,.int a,.int b=>if (a=2∨a=8)∧0≤b∧b≤64 then some (.int (a ^ b.toNat)) else none
 | .BitAnd,.int a,.int b=>some (.int (Builtin.bitAnd a b))
 | .BitOr,.int a,.int b=>some (.int (Builtin.bitOr a b))
 | .Add,.str a,.str b=>if a.length+b.length≤lim then some (.str (a++b)) else none
 | .Mult,.str a,.int n=>if a.length≤100∧0≤n∧n≤100 then some (.str (Txt.mul a n)) else none
 | .Add,.list a,.list b=>if a.length+b.length≤lim then some (.list (a++b)) else none
 |_,_,_=>none
def ints? :List D→Option (List Int)
 |[]=>some []
 | .int i::r=>(ints? r).map (i::·)
 |_=>none
def strs? :List D→Option (List Str)
 |[]=>some []
 | .str i::r=>(strs? r).map (i::·)
 |_=>none
def sortI(l:List Int):List Int:=l.mergeSort fun a b=>decide (a≤b)
def strLe(a b:Str):Bool:=decide (a.cps.toList≤b.cps.toList)
def sortS(l:List Str):List Str:=l.mergeSort strLe
def idx?(i:Int)(n:Nat):Option Nat:=if 0≤i then (if i<n then some i.toNat else none) else if -(n:Int)≤i then some (i+n).toNat else none
def pick(ds:List D)(lo hi st:Option Int):List D:=(sliceRange (sliceBounds lo hi st ds.length).1 (sliceBounds lo hi st ds.length).2.1 (sliceBounds lo hi st ds.length).2.2).filterMap (ds[·]?)
def itemD0:D→D→Option D
 | .list l,.int i=>if l.length≤lim then (idx? i l.length).bind (l[·]?) else none
 | .tup l,.int i=>if l.length≤lim then (idx? i l.length).bind (l[·]?) else none
 | .str x,.int i=>if x.length≤lim then (idx? i x.length).bind fun k=>(x.cps[k]?).map fun c=> .str ⟨#[c]⟩ else none
 | .dictS l,.str k=>l.lookup k
 | .dictI l,.int k=>l.lookup k
 |_,_=>none
def itemD(a b:D):Option D:=itemD0 a.flat b
def inD:D→D→Option Bool
 |x,.list l=>if l.all (fun y=>D.like y x&&decide (D.dep y≤20)) then some (l.any (fun y=>D.beq y x)) else none
 | .str y,.str x=>some (Txt.contains x y)
 | .str k,.dictS l=>some (l.lookup k).isSome
 |_,_=>none
def toldNe:D→D→Option Bool
 | .tup [.dictS a,b,c],.tup [.dictS a',b',c']=>if a.map (·.1)=a'.map (·.1)∧D.likes (a.map (·.2)) (a'.map (·.2))=true∧D.like b b'=true∧D.like c c'=true∧D.deps (a.map (·.2))≤20∧D.dep b≤20∧D.dep c≤20∧D.beqs (a.map (·.2)) (a'.map (·.2))=true∧D.beq b b'=true∧D.beq c c'=true then some false else none
 |_,_=>none
def cmpD:CmpOp→D→D→Option Bool
 | .Eq,a,b=>if D.like a b&&decide (D.dep a≤20) then some (D.beq a b) else none
 | .NotEq,a,b=>if D.like a b&&decide (D.dep a≤20) then some (!D.beq a b) else toldNe a b
 | .Lt,.int a,.int b=>some (decide (a<b))
 | .LtE,.int a,.int b=>some (decide (a≤b))
 | .Gt,.int a,.int b=>some (decide (a > b))
 | .GtE,.int a,.int b=>some (decide (a≥b))
 | .In,a,b=>inD a b
 | .NotIn,a,b=>(inD a b).map (!·)
 | .Is,.none,.none=>some true
 | .Is,.str _,.none=>some false
 |_,_,_=>none
def truD0:D→Option Bool
 | .bool b=>some b
 | .list l=>if l.length≤lim then some (!l.isEmpty) else none
 |_=>none
def truD(d:D):Option Bool:=truD0 d.flat
def iterD:D→Option (List D)
 | .list l=>some l
 | .tup l=>some l
 | .rng a b=>if small a&&small b&&decide (b - a≤1000) then some ((List.range (b - a).toNat).map fun(k:Nat)=>D.int (a+(k:Int))) else none
 |_=>none
def maxI:Int→List Int→Int
 |a,[]=>a
 |a,b::r=>maxI (if b > a then b else a) r
def builtinD(f:Str)(as:List D):Option D:=
 if f="len" then match as with
  |[.list l]=>if l.length≤lim then some (.int l.length) else none
  |[.tup l]=>if l.length≤lim then some (.int l.length) else none
  |[.str x]=>if x.length≤lim then some (.int x.length) else none
  |_=>none
 else if f="sum" then match as with
  |[.list l]=>(ints? l).map fun ns=> .int ns.sum
  |_=>none
 else if f="range" then match as with
  |[.int n]=>some (.rng 0 n)
  |[.int a,.int b]=>some (.rng a b)
  |_=>none
 else if f="sorted" then match as with
  |[.list l]=>if l.length<64 then (match ints? l,strs? l with
     |some ns,_=>some (.list ((sortI ns).map .int))
     |none,some ss=>some (.list ((sortS ss).map .str))
     |_,_=>none) else none
  |_=>none
 else if f="max" then match as with
  |[.list l]=>(ints? l).bind fun ns=>match ns with|[]=>none|a::r=>some (.int (maxI a r))
  |[.int a,.int b]=>some (.int (if b > a then b else a))
  |_=>none
 else if f="str" then match as with
  |[.int i]=>if small i then some (.str (Str.ofString (toString i))) else none
  |_=>none
 else if f="int" then match as with
  |[.str x]=>if x.length≤640 then (intText? x).map .int else none
  |_=>none
 else if f="list" then match as with
  |[.list l]=>if l.length≤lim then some (.list l) else none
  |_=>none
 else none
def methD(o:D)(f:Str)(as:List D):Option D:=
 if f="find" then match o,as with
  | .str x,[.str y]=>some (.int (Txt.find x y))
  | .str x,[.str y,.int i]=>some (.int (match Builtin.Str.occurrences x y (fromIndex x.length i) x.length 1 with|k::_=>(k:Int)|[]=> -1))
  |_,_=>none
 else if f="split" then match o,as with
  | .str x,[.str y]=>if y.length=1∧x.length≤1000∧(decide (x.length<y.length)||decide (Builtin.Str.strKind x<Builtin.Str.strKind y))=false∧(Builtin.Str.occurrences x y 0 x.length (x.length+1)).isEmpty=false∧(Builtin.Str.partsBetween x (Builtin.Str.occurrences x y 0 x.length (x.length+1)) y.length).length≤1000 then some (.list ((Builtin.Str.partsBetween x (Builtin.Str.occurrences x y 0 x.length (x.length+1)) y.length).map .str)) else none
  |_,_=>none
 else if f="join" then match o,as with
  | .str x,[.list l]=>if x.length=0∧l.length≤1000 then (strs? l).bind fun ss=>if ss.all (fun s=>decide (s.length≤1000)) then some (.str (Txt.join x ss)) else none else none
  |_,_=>none
 else if f="index" then match o,as with
  | .list l,[x]=>if l.length≤1000∧l.all (fun y=>D.like y x&&decide (D.dep y≤20)) then (l.findIdx? (fun y=>D.beq y x)).map fun k=> .int k else none
  |_,_=>none
 else none
def storedS(l:List (Str×D))(k:Str)(v:D):List (Str×D):=if (l.lookup k).isSome then l.map fun p=>if p.1=k then (p.1,v) else p else l++[(k,v)]
def storedI(l:List (Int×D))(k:Int)(v:D):List (Int×D):=if (l.lookup k).isSome then l.map fun p=>if p.1=k then (p.1,v) else p else l++[(k,v)]
def dictS? :List (Str×D)→List D→Option (List (Str×D))
 |acc,[]=>some acc
 |acc,.tup [.str k,v]::r=>dictS? (storedS acc k v) r
 |_,_=>none
def dictI? :List (Int×D)→List D→Option (List (Int×D))
 |acc,[]=>some acc
 |acc,.tup [.int k,v]::r=>dictI? (storedI acc k v) r
 |_,_=>none
def dictOfPairs(ps:List D):Option D:=match ps with
 | .tup [.int _,_]::_=>(dictI? [] ps).map .dictI
 |_=>(dictS? [] ps).map .dictS
def setArg? :List Expr→Option (Str×Expr)
 |[.Call (.Name g _) [e] [] _]=>if g="set" then some (g,e) else none
 |_=>none
structure Ev where
 E:Bool→Scope→Loc→Expr→Option D
 S:Bool→Scope→LocB→Stmt→Option (Fl×LocB)
def bindT(l:Loc)(t:Expr)(d:D):Option Loc:=match t with
 | .Name x _=>if (l x).isSome=true then none else some (setL l x d)
 | .Tuple [.Name x _,.Name y _] _ _=>match d with
   | .tup [a,b]=>if (l x).isSome=true∨(l y).isSome=true then none else some (setL (setL l x a) y b)
   |_=>none
 |_=>none
def bindTB(l:LocB)(t:Expr)(d:D):Option LocB:=match t with
 | .Name x _=>some (setL l x (.val d))
 | .Tuple [.Name x _,.Name y _] _ _=>match d with
   | .tup [a,b]=>some (setL (setL l x (.val a)) y (.val b))
   |_=>none
 |_=>none
section
variable(fns:List (Str×Fn))(glob:List (Str×D))(r:Ev)(k:Bool)
def Ess(sc:Scope)(l:Loc):List Expr→Option (List D)
 |[]=>some []
 |e::es=>if PySem.W.isStarred e=true then none else do
  let d←r.E k sc l e
  let ds←Ess sc l es
  some (d::ds)
def Eoss(sc:Scope)(l:Loc):List (Option Expr)→Option (List D)
 |[]=>some []
 |some e::es=>do
  let d←r.E k sc l e
  let ds←Eoss sc l es
  some (d::ds)
 |none::_=>none
def isSetE:Expr→Bool
 | .Set .. =>true
 |_=>false
def okT(sc:Scope):Expr→Bool
 | .Name x _=>decide (sc.names.lookup x=some .local∨sc.names.lookup x=some .cell)
 | .Tuple [.Name x _,.Name y _] _ _=>decide ((sc.names.lookup x=some .local∨sc.names.lookup x=some .cell)∧(sc.names.lookup y=some .local∨sc.names.lookup y=some .cell)∧x≠y)
 |_=>false
def okComp(sc csc:Scope)(gens:List Comprehension):Bool:=
 decide (csc.kind= .function)&&decide ((csc.names.map (·.1)).Nodup)&&csc.names.all (fun p=>decide (p.2= .free→sc.names.lookup p.1=some .cell∨sc.names.lookup p.1=some .free))&&gens.all fun g=>decide (g.is_async=0)&& !isSetE g.iter&&okT csc g.target
def Bt(sc:Scope)(l:Loc):Nat→Expr→Option Bool
 |0,_=>none
 |n+1,e=>match e with
  | .UnaryOp .Not x _=>(Bt sc l n x).map (!·)
  | .BoolOp .And [x,y] _=>(Bt sc l n x).bind fun b=>if b then Bt sc l n y else some false
  | .BoolOp .Or [x,y] _=>(Bt sc l n x).bind fun b=>if b then some true else Bt sc l n y
  | .Compare x [op] [y] _=>if isSetE y=true then none else (r.E k sc l x).bind fun a=>(r.E k sc l y).bind fun b=>cmpD op a b
  | .Name x p=>(r.E k sc l (.Name x p)).bind truD
  | .Call f as ks p=>(r.E k sc l (.Call f as ks p)).bind truD
  |_=>none
def testAll(sc:Scope)(l:Loc):List Expr→Option Bool
 |[]=>some true
 |[e]=>Bt r k sc l 4 e
 |_=>none
def compLoop(sc:Scope)(l:Loc)(g:Comprehension)(deep:Loc→Option (List D)):List D→Option (List D)
 |[]=>some []
 |d::ds=>do
  let l'←bindT l g.target d
  let ok←testAll r k sc l' g.ifs
  let here←if ok then deep l' else some []
  let more←compLoop sc l g deep ds
  some (here++more)
def emitS(sc:Scope)(ke ve:Expr)(l:Loc):Option D:=(r.E k sc l ke).bind fun a=>(r.E k sc l ve).bind fun b=>match a with
 | .str x=>some (.tup [.str x,b])
 |_=>none
def emitI(sc:Scope)(ke ve:Expr)(l:Loc):Option D:=(r.E k sc l ke).bind fun a=>(r.E k sc l ve).bind fun b=>match a with
 | .int x=>some (.tup [.int x,b])
 |_=>none
def comp(sc:Scope)(emit:Loc→Option D):List Comprehension→Loc→List D→Option (List D)
 |[],_,_=>none
 |[g],l,its=>compLoop r k sc l g (fun l'=>(emit l').map fun x=>[x]) its
 |g::g'::gs,l,its=>compLoop r k sc l g (fun l'=>do
   let its'←(r.E k sc l' g'.iter).bind iterD
   comp sc emit (g'::gs) l' its') its
def Ssl(sc:Scope):LocB→List Stmt→Option (Fl×LocB)
 |l,[]=>some (.next,l)
 |l,s::ss=>do
  let (f,l')←r.S k sc l s
  match f with
  | .next=>Ssl sc l' ss
  |f=>some (f,l')
def forL(sc:Scope)(t:Expr)(body:List Stmt):LocB→List D→Option (Fl×LocB)
 |l,[]=>some (.next,l)
 |l,d::ds=>do
  let l1←bindTB l t d
  let (f,l2)←Ssl r k sc l1 body
  match f with
  | .next=>forL sc t body l2 ds
  | .cont=>forL sc t body l2 ds
  | .exc _ _=>none
  |f=>some (f,l2)
def bindP:List Str→List D→Option LocB
 |[],[]=>some fun _=>none
 |x::xs,d::ds=>(bindP xs ds).map fun l=>setL l x (.val d)
 |_,_=>none
def bindPL(l:Loc):List Str→List D→Option Loc
 |[],[]=>some l
 |x::xs,d::ds=>(bindPL l xs ds).map fun l=>setL l x d
 |_,_=>none
def callD(f:Str)(as:List D):Option (Fl×LocB):=do
 let fn←fns.lookup f
 let l←bindP fn.names as
 Ssl r false fn.scope l fn.body
def retOf:Fl×LocB→Option D
 |(.ret d,_)=>some d
 |_=>none
def okLam(sc:Scope):Expr→Bool
 | .Lambda ps _ scl _=>k&&plainP ps&&ps.defaults.isEmpty&&ps.kw_defaults.isEmpty&& !scl.isCoroutine&& !scl.isGenerator&&decide (scl.kind= .function)&&decide ((scl.names.map (·.1)).Nodup)&&
   ps.args.all (fun a=>decide (scl.names.lookup a.arg=some .local∨scl.names.lookup a.arg=some .cell))&&scl.names.all (fun p=>decide (p.2= .free→sc.names.lookup p.1=some .cell∨sc.names.lookup p.1=some .free))
 |_=>false
def applyD(l:Loc)(f:Expr)(as:List D):Option D:=match f with
 | .Lambda ps body scl _=>do
   let l'←bindPL (compLoc scl l) (ps.args.map (·.arg)) as
   r.E false scl l' body
 |_=>none
def foldD(l:Loc)(f:Expr):D→List D→Option D
 |a,[]=>some a
 |a,d::ds=>do
  let a'←applyD r l f [a,d]
  foldD l f a' ds
def partD(sc:Scope)(l:Loc):Option Expr→Option (Option Int)
 |none=>some none
 |some e=>match r.E k sc l e with
  |some (.int i)=>some (some i)
  |_=>none
def noExc:Fl×LocB→Option (Fl×LocB)
 |(.exc _ _,_)=>none
 |x=>some x
def isCallE:Expr→Bool
 | .Call .. =>true
 |_=>false
def stepE(sc:Scope)(l:Loc):Expr→Option D
 | .Constant c _ _=>match c with
   | .none=>some .none
   | .bool b=>some (.bool b)
   | .int i=>some (.int i)
   | .str s=>some (.str s)
   |_=>none
 | .Name x _=>if (x==("__debug__":Str)||x==("__classdict__":Str))=true then none else match sc.names.lookup x with
   |some .local=>l x
   |some .cell=>l x
   |some .free=>l x
   |some .globalImplicit=>if (fns.lookup x).isSome then none else glob.lookup x
   |_=>none
 | .BinOp a op b _=>do binD op (←r.E k sc l a) (←r.E k sc l b)
 | .UnaryOp .USub (.Constant (.int i) _ _) _=>some (.int (-i))
 | .BoolOp .And [a,b] _=>do
   match←r.E k sc l a with
   | .bool true=>r.E k sc l b
   | .bool false=>some (.bool false)
   |_=>none
 | .IfExp t a b _=>do if←Bt r k sc l 4 t then r.E k sc l a else r.E k sc l b
 | .List es _=>(Ess r k sc l es).bind fun ds=>if ds.length≤lim then some (.list ds) else none
 | .Tuple es _ _=>(Ess r k sc l es).bind fun ds=>if ds.length≤lim then some (.tup ds) else none
 | .ListComp elt gens csc _=>match gens with
   |[]=>none
   |g::_=>do
    let its←(r.E k sc l g.iter).bind iterD
    if okComp sc csc gens=true then
    let ds←comp r k (ownSc sc csc) (fun l'=>r.E k (ownSc sc csc) l' elt) gens (compLoc csc l) its
    if ds.length≤lim then some (.list ds) else none
    else none
 | .DictComp ke ve gens csc _=>match gens with
   |[g]=>do
    let its←(r.E k sc l g.iter).bind iterD
    if okComp sc csc [g]=true then
    match comp r k (ownSc sc csc) (emitS r k (ownSc sc csc) ke ve) [g] (compLoc csc l) its with
    |some ps=>if ps.length≤lim then (dictS? [] ps).map .dictS else none
    |none=>(comp r k (ownSc sc csc) (emitI r k (ownSc sc csc) ke ve) [g] (compLoc csc l) its).bind fun ps=>if ps.length≤lim then (dictI? [] ps).map .dictI else none
    else none
   |_=>none
 | .Dict ks vs _=>do
   let kd←Eoss r k sc l ks
   let vd←Ess r k sc l vs
   if 1≤kd.length∧kd.length≤15∧kd.length=vd.length then (dictS? [] ((kd.zip vd).map fun p=> .tup [p.1,p.2])).map .dictS else none
 | .Compare a [op] [b] _=>if isSetE b=true then none else do
   let x←r.E k sc l a
   let y←r.E k sc l b
   (cmpD op x y).map .bool
 | .Subscript v s _=>match s with
   | .Slice lo hi st _=>do
     let d←r.E k sc l v
     let lo←partD r k sc l lo
     let hi←partD r k sc l hi
     let st←partD r k sc l st
     match d.flat with
     | .list ds=>if st≠some 0∧ds.length≤lim then some (.list (pick ds lo hi st)) else none
     | .str x=>if st=none∧x.length≤lim then some (.str (Txt.slice x lo hi)) else none
     |_=>none
   |s=>do itemD (←r.E k sc l v) (←r.E k sc l s)
 | .Call (.Name f _) args [] _=>
   if sc.names.lookup f≠some .globalImplicit∨(f==("__debug__":Str))=true then none else
   if f="reduce" then match args with
    |[g,s]=>if okLam k sc g=false∨PySem.W.isStarred s=true then none else (r.E k sc l s).bind fun d=>match d with
     | .list (a::ds)=>foldD r l g a ds
     |_=>none
    |[g,s,i]=>if okLam k sc g=false∨PySem.W.isStarred s=true∨PySem.W.isStarred i=true then none else (r.E k sc l s).bind fun d=>(r.E k sc l i).bind fun a=>match d,a with
     | .list ds,.list x=>foldD r l g (.list x) ds
     | .list ds,.int x=>foldD r l g (.int x) ds
     |_,_=>none
    |_=>none
   else if f="isinstance" then match args with
    |[a,.Name b _]=>if b="list"∧sc.names.lookup b=some .globalImplicit∧PySem.W.isStarred a=false then (match r.E k sc l a with
     |some (.list _)=>some (.bool true)
     |_=>none) else none
    |_=>none
   else if (fns.lookup f).isSome then do
    let as←Ess r k sc l args
    (callD fns r f as).bind retOf
   else do
    let as←Ess r k sc l args
    builtinD f as
 | .Call (.Attribute o m ap) args [] cp=>if isCallE o=true∨(ap.endLine==cp.line)=false∨args.length≥20∨args.length=0 then none else
   if m="replace" then match args with
    |[.Constant (.str y) _ _,.Constant (.str z) _ _]=>match r.E k sc l o with
     |some (.str x)=>if (fns.lookup ("_law_said":Str)).isSome=true∧x.length≤1000∧z.length≤14∧(y==z)=false then some (.str (Txt.replace x y z)) else none
     |_=>none
    |_=>none
   else do
   let d←r.E k sc l o
   let as←Ess r k sc l args
   methD d m as
 |_=>none
def isTupT:Expr→Bool
 | .Tuple .. =>true
 |_=>false
def isEnumE:Expr→Bool
 | .Call (.Name f _) [_] [] _=>decide (f="enumerate")
 |_=>false
def forIts(sc:Scope)(l:Loc):Expr→Option (List D)
 | .Call (.Name f p) [e] [] q=>if f="enumerate" then (if sc.names.lookup f=some .globalImplicit∧PySem.W.isStarred e=false then (match r.E k sc l e with
   |some (.tup ds)=>if ds.length≤1000 then some (ds.mapIdx fun k d=> .tup [.int k,d]) else none
   |_=>none) else none)
   else (r.E k sc l (.Call (.Name f p) [e] [] q)).bind iterD
 |e=>(r.E k sc l e).bind iterD
def freshList:Expr→Bool
 | .List _ _=>true
 | .BinOp _ .Add _ _=>true
 |_=>false
def stepS(n:Nat)(sc:Scope)(l:LocB):Stmt→Option (Fl×LocB)
 | .Assign [.Name x p] e _=>if okT sc (.Name x p)=false then none else do
   let d←r.E k sc (purL l) e
   if mutNames.contains x then (if freshList e then match d with
    | .list ds=>some (.next,setL l x (.own ds))
    |_=>none else none)
   else some (.next,setL l x (.val d))
 | .Expr (.Call (.Attribute (.Name x _) m ap) [a] [] cp) _=>if (ap.endLine==cp.line)=false∨PySem.W.isStarred a=true∨(x==("__debug__":Str))=true∨(x==("__classdict__":Str))=true then none else do
   match l x with
   |some (.own ds)=>
    let d←r.E k sc (purL l) a
    if m="append" then (if ds.length≤lim then some (.next,setL l x (.own (ds++[d]))) else none)
    else if m="extend" then match d with
     | .list es=>if ds.length+es.length≤lim then some (.next,setL l x (.own (ds++es))) else none
     |_=>none
    else none
   |_=>none
 | .If t a b _=>do if←Bt r k sc (allL l) 4 t then Ssl r k sc l a else Ssl r k sc l b
 | .For t i body orelse _=>if (okT sc t&& !isSetE i&&(isTupT t|| !isEnumE i))=false then none else do
   let its←forIts r k sc (purL l) i
   match←forL r k sc t body l its with
   |(.next,l')=>(Ssl r k sc l' orelse).bind noExc
   |(.brk,l')=>some (.next,l')
   |x=>some x
 | .While t body [] p=>do
   if←Bt r k sc (allL l) 4 t then
    match←Ssl r k sc l body with
    |(.next,l')=>match n with
     |0=>none
     |_+1=>r.S k sc l' (.While t body [] p)
    |(.brk,l')=>some (.next,l')
    |(.ret d,l')=>some (.ret d,l')
    |_=>none
   else some (.next,l)
 | .Return (some e) _=>(r.E k sc (allL l) e).map fun d=>(.ret d,l)
 | .Break _=>some (.brk,l)
 | .Raise (some (.Call (.Name c _) [a] [] _)) none _=>if (c≠"error_reply"∧c≠"error_proto")∨sc.names.lookup c≠some .globalImplicit∨PySem.W.isStarred a=true then none else (r.E k sc (purL l) a).map fun d=>(.exc c d,l)
 |_=>none
end
def ev(fns:List (Str×Fn))(glob:List (Str×D)):Nat→Ev
 |0=>⟨fun _ _ _ _=>none,fun _ _ _ _=>none⟩
 |n+1=>⟨stepE fns glob (ev fns glob n),fun k=>stepS (ev fns glob n) k n⟩
open PySem.W
structure Cx where
 prog:Program
 w:World
 g0:Heap
 P:Addr
 mg:Str→Option Value
 mb:Str→Option Value
 fns:List (Str×Fn)
 glob:List (Str×D)
 c:Addr
 lq:Str
abbrev Cx.M(C:Cx):Model:=model C.prog C.w
abbrev RD(C:Cx)(h:Heap)(Y:List Addr)(v:Value)(d:D):Prop:=R C.prog C.w (view h Y) v d
abbrev RDs(C:Cx)(h:Heap)(Y:List Addr)(v:List Value)(d:List D):Prop:=Rs C.prog C.w (view h Y) v d
def usedBuiltins:List Str:=["len","sum","range","sorted","max","str","int","list","enumerate","isinstance","set","iter","next"]
def excMyNames:List Str:=["__init__","__getattribute__","__getattr__","args","__str__"]
def excBM:List Value:=[.type "Exception",.type "BaseException",.type "object"]
def ExcC(h:Heap)(cl clE:Addr):Prop:=∃(nm q:Str) (N:Addr) (bs:List Value) (hdct:Bool) (sn:List Str) (sub:List Value) (ab:Bool) (col:Option Bool) (dd:Option Addr) (k0 k1 k2 k3 k5:Option Value) (newId Bn inN:String) (bmN:List Value)
    (c0:Value) (dd0:Option Addr) (cd:ClassData) (sl:Array (Option Value)) (mN mE:Str→Option Value),
 ExcBaseFacts Bn newId inN bmN∧excBM.contains (.type Bn)=true∧h.get? cl=some (excClassObj nm q cl N bs (.ref clE::excBM) hdct sn sub ab col dd k0 k1 k2 k3 k5 newId)∧h.Ns N mN∧(∀x∈excMyNames,mN x=none)∧
 h.get? clE=some { cls:=c0,dict:=dd0,data:= .cls cd,slots:=sl }∧h.Ns cd.ns mE∧∀x∈excMyNames,mE x=none
structure RedFn(fn:Fn):Prop where
 ok:okFn fn=true
 names:fn.names=(["function","sequence","initial"]:List Str)
 loc:∀x∈(["function","sequence","initial","it","value","element"]:List Str),fn.scope.names.lookup x=some .local
 glb:∀x∈(["iter","next","_initial_missing"]:List Str),fn.scope.names.lookup x=some .globalImplicit
 shape:∃(p:Nat→Pos) (h0:ExceptHandler) (hs:List ExceptHandler),fn.body=[
  .Assign [.Name "it" (p 0)] (.Call (.Name "iter" (p 1)) [.Name "sequence" (p 2)] [] (p 3)) (p 4),
  .If (.Compare (.Name "initial" (p 5)) [.Is] [.Name "_initial_missing" (p 6)] (p 7))
   [.Try [.Assign [.Name "value" (p 8)] (.Call (.Name "next" (p 9)) [.Name "it" (p 10)] [] (p 11)) (p 12)] (h0::hs) [] [] (p 13)]
   [.Assign [.Name "value" (p 14)] (.Name "initial" (p 15)) (p 16)] (p 17),
  .For (.Name "element" (p 18)) (.Name "it" (p 19)) [.Assign [.Name "value" (p 20)] (.Call (.Name "function" (p 21)) [.Name "value" (p 22),.Name "element" (p 23)] [] (p 24)) (p 25)] [] (p 26),
  .Return (some (.Name "value" (p 27))) (p 28)]
structure Base(C:Cx):Prop where
 g:C.g0.Ns mainGlobals C.mg
 b:C.g0.Ns builtinsNs C.mb
 nolimit:C.g0.NoLimit
 hP:C.g0.get? C.P=none
 fn:∀x f,C.fns.lookup x=some f→∃a o pm code doc,C.mg x=some (.ref a)∧C.g0.get? a=some o∧o.data= .func (docDef x f.params f.body f.scope pm code doc)∧C.g0.CodeRec code x
 okf:∀x f,C.fns.lookup x=some f→okFn f=true
 gl:∀x d,C.glob.lookup x=some d→∃v,C.mg x=some v∧R C.prog C.w C.g0.get? v d
 bi:∀x∈usedBuiltins,C.mg x=none∧C.mb x=bootBuiltins x
 sys:(C.g0.get? sysModules).isSome=true
 red:∃(fn:Fn) (ar:Addr) (o:Obj) (pm code doc:Value) (dt ai:Addr) (odt:Obj) (nt:Nat) (oi:Obj),RedFn fn∧C.mg "reduce"=some (.ref ar)∧C.g0.get? ar=some o∧o.data= .func { docDef "reduce" fn.params fn.body fn.scope pm code doc with defaults:= .ref dt }∧C.g0.CodeRec code "reduce"∧
  C.g0.get? dt=some odt∧odt.data= .seq #[.ref ai] nt∧C.mg "_initial_missing"=some (.ref ai)∧C.g0.get? ai=some oi∧oi.cls= .type "object"
 hd:CodeHd C.g0 C.c C.P
 bat:∃bm o,C.mg "__builtins__"=some (.ref bm)∧bm≠builtinsNs∧bm≠mainGlobals∧C.g0.get? bm=some o∧o.cls= .type "module"∧o.dict=some builtinsNs∧o.data= .plain
 exc:∃clR clP clE,C.mg "error_reply"=some (.ref clR)∧C.mg "error_proto"=some (.ref clP)∧ExcC C.g0 clR clE∧ExcC C.g0 clP clE∧clR≠clP∧clR≠clE∧clP≠clE
def TabOk(C:Cx)(h:Heap):Prop:=∃ps,h.get? C.P=some (tabObj ps)∧TriplesOk ps.toList∧∀pos cv,codeAmong pos ps.toList=some cv→h.CodeRec cv C.lq
structure Gr(C:Cx)(s:Shared):Prop where
 keep:∀b o,C.g0.get? b=some o→s.heap.get? b=some o
 tab:TabOk C s.heap
 toks:(C.fns.lookup ("_law_said":Str)).isSome=true→0<s.toks
def CodeAt(C:Cx)(h:Heap)(c:Addr):Prop:=∃ps pos,h.get? C.P=some (tabObj ps)∧codeAmong pos ps.toList=some (.ref c)
def TabTo(C:Cx)(h h':Heap):Prop:=TabOk C h→TabOk C h'∧∀c,CodeAt C h' c→CodeAt C h c∨h.get? c=none
def KP(C:Cx)(s s':Shared):Prop:=∃h' tk,s'={ s with heap:=h',toks:=tk }∧s.toks≤tk∧(∀b o,b≠C.P→s.heap.get? b=some o→h'.get? b=some o)∧TabTo C s.heap h'
theorem TabOk.keeps{C:Cx}{h h':Heap}(x:TabOk C h)(k:∀b o,h.get? b=some o→h'.get? b=some o):TabOk C h':=by
 obtain⟨ps,h1,h2,h3⟩:=x
 exact⟨ps,k _ _ h1,h2,fun pos cv e=>(h3 pos cv e).keeps k⟩
theorem TabTo.keeps{C:Cx}{h h':Heap}(k:∀b o,h.get? b=some o→h'.get? b=some o):TabTo C h h':=fun x=>
 ⟨x.keeps k,fun c hc=>by
  obtain⟨ps,h1,h2,h3⟩:=x
  obtain⟨ps',pos,e1,e2⟩:=hc
  rw[k _ _ h1] at e1
  cases e1
  exact .inl ⟨ps,pos,h1,e2⟩⟩
theorem TabOk.code{C:Cx}{h:Heap}(x:TabOk C h){c:Addr}(hc:CodeAt C h c):∃o,h.get? c=some o:=by
 obtain⟨ps,h1,h2,h3⟩:=x
 obtain⟨ps',pos,e1,e2⟩:=hc
 rw[h1] at e1;cases e1
 obtain⟨c',o,vs,t,hcv,ho,_⟩:=h3 pos _ e2
 cases hcv
 exact⟨o,ho⟩
theorem KP.refl{C:Cx}(s:Shared):KP C s s:=⟨s.heap,s.toks,rfl,Nat.le_refl _,fun _ _ _ e=>e,.keeps fun _ _ e=>e⟩
theorem KP.of{C:Cx}{s:Shared}{h':Heap}{tk:Nat}(ht:s.toks≤tk)(k:∀b o,s.heap.get? b=some o→h'.get? b=some o):KP C s { s with heap:=h',toks:=tk }:=
 ⟨h',tk,rfl,ht,fun b o _ e=>k b o e,.keeps k⟩
theorem KP.tok{C:Cx}{s:Shared}{tk:Nat}(ht:s.toks≤tk):KP C s { s with toks:=tk }:=KP.of ht fun _ _ e=>e
theorem KP.push{C:Cx}{s:Shared}{o:Obj}{tk:Nat}(ht:s.toks≤tk):KP C s { s with heap:=s.heap.push o,toks:=tk }:=KP.of ht fun _ _ e=>zpO _ e
theorem KP.heap{C:Cx}{s s':Shared}(x:KP C s s'){b:Addr}{o:Obj}(hb:b≠C.P)(e:s.heap.get? b=some o):s'.heap.get? b=some o:=by
 obtain⟨h1,t1,rfl,l1,k1,b1⟩:=x
 exact k1 b o hb e
theorem KP.tabTo{C:Cx}{s s':Shared}(x:KP C s s'):TabTo C s.heap s'.heap:=by
 obtain⟨h1,t1,rfl,l1,k1,b1⟩:=x
 exact b1
theorem KP.tab{C:Cx}{s s':Shared}(x:KP C s s')(h:TabOk C s.heap):TabOk C s'.heap:=(x.tabTo h).1
theorem KP.toks{C:Cx}{s s':Shared}(x:KP C s s'):s.toks≤s'.toks:=by
 obtain⟨h1,t1,rfl,l1,k1,b1⟩:=x
 exact l1
theorem KP.some{C:Cx}{s s':Shared}(x:KP C s s')(t:TabOk C s.heap){a:Addr}(h:∃o,s.heap.get? a=some o):∃o,s'.heap.get? a=some o:=by
 by_cases hb:a=C.P
 ·subst hb
  obtain⟨ps,h1,_⟩:=x.tab t
  exact⟨_,h1⟩
 ·obtain⟨o,e⟩:=h
  exact⟨o,x.heap hb e⟩
theorem none_of{h:Heap}{c:Addr}(x:¬∃o,h.get? c=some o):h.get? c=none:=by
 cases e:h.get? c with
 |none=>rfl
 |some o=>exact absurd ⟨o,e⟩ x
theorem KP.trans{C:Cx}{s s' s'':Shared}(x:KP C s s')(y:KP C s' s''):KP C s s'':=by
 have x':=x
 obtain⟨h1,t1,rfl,l1,k1,b1⟩:=x
 obtain⟨h2,t2,rfl,l2,k2,b2⟩:=y
 refine⟨h2,t2,rfl,znT l1 l2,fun b o hb e=>k2 b o hb (k1 b o hb e),fun z=>⟨(b2 (b1 z).1).1,fun c hc=> ?_⟩⟩
 rcases (b2 (b1 z).1).2 c hc with h|h
 ·exact(b1 z).2 c h
 ·refine .inr (none_of fun hs=> ?_)
  obtain⟨o,ho⟩:=x'.some z hs
  rw[h] at ho;cases ho
theorem Gr.kp{C:Cx}(Bs:Base C){s s':Shared}(g:Gr C s)(x:KP C s s'):Gr C s':=
 ⟨fun b o e=>x.heap (fun hb=>by rw[hb,Bs.hP] at e;cases e) (g.keep b o e),x.tab g.tab,fun e=>Nat.lt_of_lt_of_le (g.toks e) x.toks⟩
theorem Gr.ne{C:Cx}{s:Shared}(g:Gr C s){a:Addr}{o:Obj}(e:s.heap.get? a=some o)(hc:o.cls≠.none):a≠C.P:=by
 intro h;subst h
 obtain⟨ps,h1,_⟩:=g.tab
 rw[h1] at e;cases e;exact hc rfl
theorem RD.kp{C:Cx}{s s':Shared}{Y:List Addr}{v:Value}{d:D}(x:KP C s s')(hP:C.P∈Y)(r:RD C s.heap Y v d):RD C s'.heap Y v d:=
 R.mono (fun a o e=>by
  obtain⟨e,n⟩:=view_get e
  exact view_of (x.heap (fun h=>n (h▸hP)) e) n) r
theorem RDs.kp{C:Cx}{s s':Shared}{Y:List Addr}{v:List Value}{d:List D}(x:KP C s s')(hP:C.P∈Y)(r:RDs C s.heap Y v d):RDs C s'.heap Y v d:=
 Rs.mono (fun a o e=>by
  obtain⟨e,n⟩:=view_get e
  exact view_of (x.heap (fun h=>n (h▸hP)) e) n) r
def VarAt(env:Env)(h:Heap)(x:Str)(v:Value):Prop:=
 (env.kindOf x=some .local∧∃m,h.Ns env.locals m∧m x=some v)∨((env.kindOf x=some .cell∨env.kindOf x=some .free)∧∃c,env.cells.lookup x=some c∧h.IsCell c (some v))
theorem tab_no_ns{C:Cx}{h:Heap}(t:TabOk C h){a:Addr}{m:Str→Option Value}(n:h.Ns a m):a≠C.P:=by
 intro e;subst e
 obtain⟨ps,h1,_⟩:=t
 obtain⟨o,es,ep,ho,hd,_⟩:=n
 rw[h1] at ho;cases ho;cases hd
theorem tab_no_cell{C:Cx}{h:Heap}(t:TabOk C h){a:Addr}{v:Option Value}(n:h.IsCell a v):a≠C.P:=by
 intro e;subst e
 obtain⟨ps,h1,_⟩:=t
 obtain⟨o,ho,hd⟩:=n
 rw[h1] at ho;cases ho;cases hd
theorem VarAt.kp{C:Cx}{s s':Shared}{env:Env}{x:Str}{v:Value}(t:TabOk C s.heap)(k:KP C s s')(a:VarAt env s.heap x v):VarAt env s'.heap x v:=by
 rcases a with ⟨hk,m,hn,hm⟩|⟨hk,c,hc,hv⟩
 ·exact .inl ⟨hk,m,hn.at fun o e=>k.heap (tab_no_ns t hn) e,hm⟩
 ·obtain⟨o,ho,hd⟩:=id hv
  exact .inr ⟨hk,c,hc,o,k.heap (tab_no_cell t hv) ho,hd⟩
structure EnvOk(C:Cx)(k:Bool)(env:Env):Prop where
 kind:env.scope.kind= .function
 glob:env.globals=mainGlobals
 bi:env.builtins=builtinsNs
 cells:∀n,env.kindOf n=some .cell∨env.kindOf n=some .free→(env.cells.lookup n).isSome=true
 lam:k=true→env.code= .ref C.c∧env.qual++("<lambda>":Str)=C.lq
def EnvR(C:Cx)(Y:List Addr)(env:Env)(h:Heap)(l:Loc):Prop:=∀x d,l x=some d→∃v,VarAt env h x v∧RD C h Y v d
theorem EnvR.kp{C:Cx}{s s':Shared}{Y:List Addr}{env:Env}{l:Loc}(t:TabOk C s.heap)(k:KP C s s')(hP:C.P∈Y)(e:EnvR C Y env s.heap l):EnvR C Y env s'.heap l:=fun x d hx=>by
 obtain⟨v,a,r⟩:=e x d hx
 exact⟨v,a.kp t k,r.kp k hP⟩
structure AOk(n:Nat)(A:Around):Prop where
 handled:A.handled=none
 depth:A.depth+3 * n<900
 units:A.units+40 * n<9000
theorem AOk.mono{n m:Nat}{A:Around}(h:AOk n A)(hm:m≤n):AOk m A:=⟨h.handled,by have:=h.depth;omega,by have:=h.units;omega⟩
structure Frm(env:Env)(h:Heap):Prop where
 ns:∃m,h.Ns env.locals m
 cl:∀p∈env.cells,∃v,h.IsCell p.2 v
 apart:env.cells.Pairwise fun x y=>x.2≠y.2
theorem Frm.kp{C:Cx}{s s':Shared}{env:Env}(t:TabOk C s.heap)(k:KP C s s')(f:Frm env s.heap):Frm env s'.heap:=by
 obtain⟨⟨m,hn⟩,hc,ha⟩:=f
 refine⟨⟨m,hn.at fun o e=>k.heap (tab_no_ns t hn) e⟩,fun p hp=> ?_,ha⟩
 obtain⟨v,hv⟩:=hc p hp
 obtain⟨o,ho,hd⟩:=id hv
 exact⟨v,o,k.heap (tab_no_cell t hv) ho,hd⟩
abbrev NE:Value→Shared→Prop:=fun _ _=>False
def SE(C:Cx)(n:Nat)(r:Ev):Prop:=∀(k:Bool) (A:Around) (env:Env) (Y:List Addr) (l:Loc) (e:Expr) (d:D) (s:Shared) (Q:Value→Shared→Prop),
 AOk n A→EnvOk C k env→Gr C s→C.P∈Y→(∀a∈Y,C.g0.get? a=none)→(∀a∈Y,∃o,s.heap.get? a=some o)→Frm env s.heap→(∀p∈env.cells,p.2∈Y)→EnvR C Y env s.heap l→r.E k env.scope l e=some d→
 (∀v s',KP C s s'→RD C s'.heap Y v d→Q v s')→wpAny C.M A (eval e env) Q NE s
theorem toksOf{C:Cx}{α:Type}{A:Around}{t:Sem α}{Q:α→Shared→Prop}{s:Shared}(h:wpAny C.M A t (fun a s'=>s.toks≤s'.toks→Q a s') NE s):wpAny C.M A t Q NE s:=
 wpAny_with_toks nL (wpAny_mono h (fun _ _ x=>x) fun _ _ x=>x.elim)
structure Pre(C:Cx)(n:Nat)(k:Bool)(A:Around)(env:Env)(Y:List Addr)(l:Loc)(s:Shared):Prop where
 bs:Base C
 a:AOk n A
 eo:EnvOk C k env
 gr:Gr C s
 hP:C.P∈Y
 hY:∀a∈Y,C.g0.get? a=none
 hYs:∀a∈Y,∃o,s.heap.get? a=some o
 fm:Frm env s.heap
 hc:∀p∈env.cells,p.2∈Y
 loc:EnvR C Y env s.heap l
theorem Pre.kp{C:Cx}{n:Nat}{k:Bool}{A:Around}{env:Env}{Y:List Addr}{l:Loc}{s s':Shared}(p:Pre C n k A env Y l s)(x:KP C s s'):Pre C n k A env Y l s':=
 ⟨p.bs,p.a,p.eo,p.gr.kp p.bs x,p.hP,p.hY,fun a ha=>x.some p.gr.tab (p.hYs a ha),p.fm.kp p.gr.tab x,p.hc,p.loc.kp p.gr.tab x p.hP⟩
theorem Pre.mono{C:Cx}{n m:Nat}{k:Bool}{A:Around}{env:Env}{Y:List Addr}{l:Loc}{s:Shared}(p:Pre C n k A env Y l s)(hm:m≤n):Pre C m k A env Y l s:=
 ⟨p.bs,p.a.mono hm,p.eo,p.gr,p.hP,p.hY,p.hYs,p.fm,p.hc,p.loc⟩
theorem SE.at{C:Cx}{n:Nat}{r:Ev}(S:SE C n r){k:Bool}{A:Around}{env:Env}{Y:List Addr}{l:Loc}{e:Expr}{d:D}{s:Shared}{Q:Value→Shared→Prop}(p:Pre C n k A env Y l s)(h:r.E k env.scope l e=some d)
  (hQ:∀v s',KP C s s'→Pre C n k A env Y l s'→RD C s'.heap Y v d→Q v s'):wpAny C.M A (eval e env) Q NE s:=
 S k A env Y l e d s Q p.a p.eo p.gr p.hP p.hY p.hYs p.fm p.hc p.loc h fun v s' x r=>hQ v s' x (p.kp x) r
theorem Pre.lt{C:Cx}{n:Nat}{k:Bool}{A:Around}{env:Env}{Y:List Addr}{l:Loc}{s:Shared}(p:Pre C n k A env Y l s):∀a∈Y,a<s.heap.objs.size:=fun a ha=>by
 obtain⟨o,e⟩:=p.hYs a ha
 exact Heap.lt_size e
section
variable{C:Cx}{n:Nat}{r:Ev}{k:Bool}{A:Around}{env:Env}{Y:List Addr}{l:Loc}{s:Shared}{Q:Value→Shared→Prop}
abbrev Kq(C:Cx)(Y:List Addr)(d:D)(s:Shared)(Q:Value→Shared→Prop):Prop:=∀v s',KP C s s'→RD C s'.heap Y v d→Q v s'
theorem E_none{kd:Nat}{pos:Pos}(q:Kq C Y .none s Q):wpAny C.M A (eval (.Constant .none kd pos) env) Q NE s:=wpAny_pure (q _ _ (KP.refl s) .none)
theorem E_bool{b:Bool}{kd:Nat}{pos:Pos}(q:Kq C Y (.bool b) s Q):wpAny C.M A (eval (.Constant (.bool b) kd pos) env) Q NE s:=wpAny_pure (q _ _ (KP.refl s) (.bool b))
theorem E_int{i:Int}{kd:Nat}{pos:Pos}(q:Kq C Y (.int i) s Q):wpAny C.M A (eval (.Constant (.int i) kd pos) env) Q NE s:=wpAny_Constant_int (q _ _ (KP.tok (Nat.le_succ _)) (.int i _))
theorem E_str{x:Str}{kd:Nat}{pos:Pos}(q:Kq C Y (.str x) s Q):wpAny C.M A (eval (.Constant (.str x) kd pos) env) Q NE s:=by
 rw[eval_Constant]
 exact wpAny_mkText (q _ _ (KP.tok (Nat.le_succ _)) (.str x _))
theorem E_var{B:Around}{x:Str}{pos:Pos}{v:Value}(p:Pre C n k A env Y l s)(a:VarAt env s.heap x v)(hd:(x==("__debug__":Str))=false)(hc:(x==("__classdict__":Str))=false)(q:Q v s):wpAny C.M B (eval (.Name x pos) env) Q NE s:=by
 refine wpAny_Name ?_ hd
 rcases a with ⟨hk,m,hn,hm⟩|⟨hk,c,hc',hv⟩
 ·exact wpAny_loadName_local p.eo.kind hk hn hm q
 ·rcases hk with hk|hk
  ·exact wpAny_loadName_cell p.eo.kind hk hc' hv q
  ·exact wpAny_loadName_free p.eo.kind hk hc' hv q hc
theorem Gr.globals(bs:Base C)(g:Gr C s):s.heap.Ns mainGlobals C.mg:=bs.g.keeps g.keep
theorem Gr.builtins(bs:Base C)(g:Gr C s):s.heap.Ns builtinsNs C.mb:=bs.b.keeps g.keep
theorem E_global{B:Around}{x:Str}{pos:Pos}{v:Value}(p:Pre C n k A env Y l s)(hk:env.kindOf x=some .globalImplicit)(hv:C.mg x=some v)(hd:(x==("__debug__":Str))=false)(q:Q v s):wpAny C.M B (eval (.Name x pos) env) Q NE s:=by
 refine Name_function_global p.eo.kind hk (loadGlobal_global (mg:=C.mg) ?_ hv q) hd
 rw[p.eo.glob];exact p.gr.globals p.bs
theorem E_builtin{B:Around}{x:Str}{pos:Pos}{v:Value}(p:Pre C n k A env Y l s)(hk:env.kindOf x=some .globalImplicit)(hm:x∈usedBuiltins)(hv:bootBuiltins x=some v)(hd:(x==("__debug__":Str))=false)(q:Q v s):wpAny C.M B (eval (.Name x pos) env) Q NE s:=by
 refine Name_function_global p.eo.kind hk (loadGlobal_builtin (mg:=C.mg) (mb:=C.mb) ?_ (p.bs.bi x hm).1 ?_ ((p.bs.bi x hm).2.trans hv) q) hd
 ·rw[p.eo.glob];exact p.gr.globals p.bs
 ·rw[p.eo.bi];exact p.gr.builtins p.bs
theorem ground_view(g:Gr C s)(hY:∀a∈Y,C.g0.get? a=none){v:Value}{d:D}(x:R C.prog C.w C.g0.get? v d):RD C s.heap Y v d:=
 R.mono (fun a o e=>view_of (g.keep a o e) fun h=>by rw[hY a h] at e;cases e) x
theorem E_BinOp{a b:Expr}{op:Operator}{pos:Pos}(h:wpAny C.M A (eval a env) (fun x s₁=>wpAny C.M A (eval b env) (fun y s₂=>wpAny C.M A (binaryOp op x y) Q NE s₂) NE s₁) NE s):wpAny C.M A (eval (.BinOp a op b pos) env) Q NE s:=wpAny_BinOp h
end
section
variable{prog:Program}{w:World}{H:HV}{v:Value}
theorem R.int_inv{i:Int}(h:R prog w H v (.int i)):∃t,v= .int i t:=by cases h;exact⟨_,rfl⟩
theorem R.str_inv{x:Str}(h:R prog w H v (.str x)):∃t,v= .str x t:=by cases h;exact⟨_,rfl⟩
theorem R.bool_inv{b:Bool}(h:R prog w H v (.bool b)):v= .bool b:=by cases h;rfl
theorem R.none_inv(h:R prog w H v .none):v= .none:=by cases h;rfl
theorem R.list_inv{ds:List D}(h:R prog w H v (.list ds)):∃a vs n,v= .ref a∧H a=some (lstO vs n)∧Rs prog w H vs ds:=by cases h;exact⟨_,_,_,rfl,‹_›,‹_›⟩
theorem R.tup_inv{ds:List D}(h:R prog w H v (.tup ds)):∃a vs n,v= .ref a∧H a=some (tupO vs n)∧Rs prog w H vs ds:=by cases h;exact⟨_,_,_,rfl,‹_›,‹_›⟩
theorem R.rng_inv{a b:Int}(h:R prog w H v (.rng a b)):∃r t u z,v= .ref r∧H r=some { cls:= .type "range",data:= .fields #[.int a t,.int b u,.int 1 z] }:=by cases h;exact⟨_,_,_,_,rfl,‹_›⟩
end
section
variable{C:Cx}{n:Nat}{r:Ev}{k:Bool}{A:Around}{env:Env}{Y:List Addr}{l:Loc}{s:Shared}{Q:Value→Shared→Prop}
theorem new_view{o:Obj}{tk:Nat}(hY:∀a∈Y,a<s.heap.objs.size)(hf:o.isFreed=false):view ({ s with heap:=s.heap.push o,toks:=tk }:Shared).heap Y s.heap.objs.size=some o:=
 view_of (Heap.get?_push_size _ hf) fun h=>Nat.lt_irrefl _ (hY _ h)
theorem sz{m:Nat}(h:m≤lim):m≤sizeLine:=by
 have:sizeLine=16777216:=by decide
 have:lim=1000000:=by decide
 omega
theorem bits_small{a:Int}(h:small a=true):Builtin.Int.intBits a≤64:=by
 have h':a.natAbs<2 ^ 60:=of_decide_eq_true h
 exact intBits_le_64 kO kO
theorem mulOk{x:Str}{m:Int}(h:x.length≤100∧0≤m∧m≤100):MulOk x m:=by
 obtain⟨h1,h2,h3⟩:=h
 refine⟨by simp;omega,?_,?_⟩
 ·intro h4 _ h5
  have h7:(x.length:Int) * m≤100 * 100:=Int.mul_le_mul kO h3 h2 kD
  have h6:(x.length:Int)≤(2 ^ 63 - 1) / m:=(Int.le_ediv_iff_mul_le kO).mpr kO
  omega
 ·intro _ _
  have h7:x.length * m.toNat≤100 * 100:=Nat.mul_le_mul h1 kO
  have:sizeLine=16777216:=by decide
  unfold Builtin.Str.tooLong
  simp;omega
theorem bin_sound{op:Operator}{x y:Value}{a b d:D}(hP:C.P∈Y)(hY:∀a∈Y,a<s.heap.objs.size)(h:binD op a b=some d)(hx:RD C s.heap Y x a)(hy:RD C s.heap Y y b)(q:Kq C Y d s Q):wpAny C.M A (binaryOp op x y) Q NE s:=by
 unfold binD at h
 split at h
 ·-- add ints
  cases h;obtain⟨t,rfl⟩:=hx.int_inv;obtain⟨u,rfl⟩:=hy.int_inv
  exact P.add_int (q _ _ (KP.tok (Nat.le_succ _)) (.int _ _))
 ·cases h;obtain⟨t,rfl⟩:=hx.int_inv;obtain⟨u,rfl⟩:=hy.int_inv
  exact P.sub_int (q _ _ (KP.tok (Nat.le_succ _)) (.int _ _))
 ·split at h
  ·rename_i hs;cases h;obtain⟨t,rfl⟩:=hx.int_inv;obtain⟨u,rfl⟩:=hy.int_inv
   refine P.mul_int (q _ _ (KP.tok (Nat.le_succ _)) (.int _ _)) ?_
   rcases Bool.or_eq_true_iff.mp hs with hs|hs
   ·exact .of_left (bits_small hs)
   ·exact .of_right (bits_small hs)
  ·cases h
 ·split at h
  ·rename_i hs;cases h;obtain⟨t,rfl⟩:=hx.int_inv;obtain⟨u,rfl⟩:=hy.int_inv
   exact floordiv_int hs.1 (q _ _ (KP.tok (Nat.le_succ _)) (.int _ _)) (.inl (PyProof.noPylong_small hs.2))
  ·cases h
 ·split at h
  ·rename_i hs;cases h;obtain⟨t,rfl⟩:=hx.int_inv;obtain⟨u,rfl⟩:=hy.int_inv
   exact mod_int' hs (q _ _ (KP.tok (Nat.le_succ _)) (.int _ _))
  ·cases h
 ·split at h
  ·rename_i hs;cases h;obtain⟨t,rfl⟩:=hx.int_inv;obtain⟨u,rfl⟩:=hy.int_inv
   refine pow_int_small hs.2.1 kO ?_ (q _ _ (KP.tok (Nat.le_succ _)) (.int _ _))
   rcases hs.1 with rfl|rfl <;> decide
  ·cases h
 ·cases h;obtain⟨t,rfl⟩:=hx.int_inv;obtain⟨u,rfl⟩:=hy.int_inv
  exact and_int (q _ _ (KP.tok (Nat.le_succ _)) (.int _ _))
 ·cases h;obtain⟨t,rfl⟩:=hx.int_inv;obtain⟨u,rfl⟩:=hy.int_inv
  exact or_int (q _ _ (KP.tok (Nat.le_succ _)) (.int _ _))
 ·split at h
  ·rename_i hs;cases h;obtain⟨t,rfl⟩:=hx.str_inv;obtain⟨u,rfl⟩:=hy.str_inv
   refine toksOf (SB.add (fun t' k' ht=>q _ _ (KP.tok ht) (.str _ _)) (sz hs))
  ·cases h
 ·split at h
  ·rename_i hs;cases h;obtain⟨t,rfl⟩:=hx.str_inv;obtain⟨u,rfl⟩:=hy.int_inv
   exact toksOf (SB.mul (mulOk hs) (fun t' k' ht=>q _ _ (KP.tok ht) (.str _ _)))
  ·cases h
 ·split at h
  ·rename_i hs;cases h
   obtain⟨a1,vs,n1,rfl,h1,r1⟩:=hx.list_inv
   obtain⟨a2,ws,n2,rfl,h2,r2⟩:=hy.list_inv
   have e1:=(view_get h1).1
   have e2:=(view_get h2).1
   have l1:=r1.length
   have l2:=r2.length
   refine P.add_list e1 e2 (q _ _ (KP.push nL) ?_) (by simp only[List.size_toArray];exact sz kO)
   refine .list (vs:=vs++ws) (n:=0) ?_ ?_
   ·have:=new_view (tk:=s.toks) (o:=lstO (vs++ws) 0) hY rfl
    simpa [lstO] using this
   ·exact(RDs.kp (KP.push nL) hP (r1.append r2))
  ·cases h
 ·cases h
end
open PySem.SeqAt
section
variable{prog:Program}{w:World}{H:HV}
theorem dep_mem:∀{l:List D} {a:D},a∈l→a.dep≤D.deps l
 |b::r,a,h=>by
  simp only[D.deps]
  rcases zcon.mp h with rfl|h
  ·exact Nat.le_max_left _ _
  ·exact znT (dep_mem h) (Nat.le_max_right _ _)
theorem beqs_same'(P:∀(a b:D) (v:Value),R prog w H v a→R prog w H v b→D.like a b=true→True)(n:Nat)
  (IH:∀(a b:D) (v:Value),a.dep≤n→R prog w H v a→R prog w H v b→D.like a b=true→D.beq a b=true):
  ∀(a b:List D) (v:List Value),D.deps a≤n→Rs prog w H v a→Rs prog w H v b→D.likes a b=true→D.beqs a b=true:=by
 intro a
 induction a with
 |nil=>intro b v _ h g _;cases h;cases g;rfl
 |cons a r ih=>
  intro b v hn h g k
  cases h with
  |cons h hr=>
   cases g with
   |cons g gr=>
    simp only[D.likes,Bool.and_eq_true] at k
    simp only[D.deps] at hn
    simp only[D.beqs,Bool.and_eq_true]
    exact⟨IH _ _ _ kO h g k.1,ih _ _ kO hr gr k.2⟩
theorem beq_same_n(n:Nat):∀(a b:D) (v:Value),a.dep≤n→R prog w H v a→R prog w H v b→D.like a b=true→D.beq a b=true:=by
 induction n with
 |zero=>
  intro a b v hn h g k
  unfold D.like at k
  split at k
  ·cases h;cases g;simp[D.beq]
  ·cases h;cases g;simp[D.beq]
  ·simp[D.dep] at hn
  ·simp[D.dep] at hn
  ·cases k
 |succ n IH=>
  intro a b v hn h g k
  unfold D.like at k
  split at k
  ·cases h;cases g;simp[D.beq]
  ·cases h;cases g;simp[D.beq]
  ·obtain⟨a1,vs,n1,rfl,h1,r1⟩:=h.list_inv
   obtain⟨a2,ws,n2,e,h2,r2⟩:=g.list_inv
   cases e
   rw[h1] at h2
   have e:vs=ws:=by
    simp only[lstO,Option.some.injEq,Obj.mk.injEq,Data.seq.injEq] at h2
    simpa using congrArg Array.toList h2.2.2.1.1
   subst e
   simp only[D.beq]
   simp only[D.dep] at hn
   exact beqs_same' (fun _ _ _ _ _ _=>trivial) n IH _ _ _ kO r1 r2 k
  ·obtain⟨a1,vs,n1,rfl,h1,r1⟩:=h.tup_inv
   obtain⟨a2,ws,n2,e,h2,r2⟩:=g.tup_inv
   cases e
   rw[h1] at h2
   have e:vs=ws:=by
    simp only[tupO,Option.some.injEq,Obj.mk.injEq,Data.seq.injEq] at h2
    simpa using congrArg Array.toList h2.2.2.1.1
   subst e
   simp only[D.beq]
   simp only[D.dep] at hn
   exact beqs_same' (fun _ _ _ _ _ _=>trivial) n IH _ _ _ kO r1 r2 k
  ·cases k
theorem beq_same{a b:D}{v:Value}(h:R prog w H v a)(g:R prog w H v b)(k:D.like a b=true):D.beq a b=true:=beq_same_n _ a b v nL h g k
def eAt(as bs:List D)(j:Nat):Bool:=match as[j]?,bs[j]? with
 |some a,some b=>D.beq a b
 |_,_=>true
theorem all_eAt:∀(as bs:List D),as.length=bs.length→(List.range as.length).all (eAt as bs)=D.beqs as bs
 |[],[],_=>by simp[D.beqs]
 |a::as,b::bs,h=>by
  rw[List.length_cons,List.range_succ_eq_map,List.all_cons,List.all_map]
  have e:(eAt (a::as) (b::bs) ∘ Nat.succ)=eAt as bs:=by funext j;simp[eAt]
  rw[e,all_eAt as bs (by simpa using h)]
  simp[eAt,D.beqs]
theorem all_eAt_min:∀(as bs:List D),((List.range (min as.length bs.length)).all (eAt as bs)&&as.length==bs.length)=D.beqs as bs
 |[],[]=>by simp[D.beqs]
 |[],b::bs=>by simp[D.beqs]
 |a::as,[]=>by simp[D.beqs]
 |a::as,b::bs=>by
  have:=all_eAt_min as bs
  rw[List.length_cons,List.length_cons,Nat.succ_min_succ,List.range_succ_eq_map,List.all_cons,List.all_map]
  have e:(eAt (a::as) (b::bs) ∘ Nat.succ)=eAt as bs:=by funext j;simp[eAt]
  rw[e]
  have e2:(as.length+1==bs.length+1)=(as.length==bs.length):=by simp
  rw[e2,Bool.and_assoc,this]
  simp[eAt,D.beqs]
theorem beqs_len:∀(as bs:List D),as.length≠bs.length→D.beqs as bs=false
 |[],[],h=>absurd rfl h
 |[],b::bs,_=>by simp[D.beqs]
 |a::as,[],_=>by simp[D.beqs]
 |a::as,b::bs,h=>by simp[D.beqs,beqs_len as bs (by simpa using h)]
end
section
variable{prog:Program}{w:World}{s:Shared}{Y:List Addr}
theorem isList_of{a:Addr}{vs:List Value}{n:Nat}(h:view s.heap Y a=some (lstO vs n)):s.heap.IsList a vs.toArray:=⟨_,(view_get h).1,rfl,n,rfl⟩
theorem isTuple_of{a:Addr}{vs:List Value}{n:Nat}(h:view s.heap Y a=some (tupO vs n)):s.heap.IsTuple a vs.toArray:=⟨_,(view_get h).1,rfl,n,rfl⟩
theorem eqAts'(n:Nat)(IH:∀(a b:D) (x y:Value) (A:Around),a.dep≤n→D.like a b=true→R prog w (view s.heap Y) x a→R prog w (view s.heap Y) y b→A.units+a.dep<9800→EqAt A s x y (D.beq a b)):
  ∀(a b:List D) (x y:List Value) (A:Around),D.deps a≤n→D.likes a b=true→Rs prog w (view s.heap Y) x a→Rs prog w (view s.heap Y) y b→A.units+D.deps a<9800→
  ∀(j:Nat) (h1:j<x.length) (h2:j<y.length),EqAt A s x[j] y[j] (eAt a b j):=by
 intro a
 induction a with
 |nil=>intro b x y A _ _ h g _ j h1 _;cases h;simp at h1
 |cons a r ih=>
  intro b x y A hn k h g hu j h1 h2
  cases h with
  |cons h hr=>
   cases g with
   |nil=>simp at h2
   |cons g gr=>
    simp only[D.likes,Bool.and_eq_true] at k
    simp only[D.deps] at hu hn
    cases j with
    |zero=>
     have:=IH a _ _ _ A kO k.1 h g kO
     simpa [eAt] using this
    |succ j=>
     have:=ih _ _ _ A kO k.2 hr gr kO j (by simpa using h1) (by simpa using h2)
     simpa [eAt] using this
theorem eqAt_n(n:Nat):∀(a b:D) (x y:Value) (A:Around),a.dep≤n→D.like a b=true→R prog w (view s.heap Y) x a→R prog w (view s.heap Y) y b→A.units+a.dep<9800→EqAt A s x y (D.beq a b):=by
 induction n with
 |zero=>
  intro a b x y A hn k h g hu
  have k0:=k
  unfold D.like at k
  split at k
  ·obtain⟨t,rfl⟩:=h.int_inv;obtain⟨u,rfl⟩:=g.int_inv
   intro prog w E Q q
   exact wpAny_eqBool_int (by simpa [D.beq] using q)
  ·rename_i i j
   obtain⟨t,rfl⟩:=h.str_inv;obtain⟨u,rfl⟩:=g.str_inv
   intro prog w E Q q
   refine wpAny_eqBool_str ?_
   have:decide (i=j)=D.beq (.str i) (.str j):=by simp only[D.beq];by_cases e:i=j <;> simp[e]
   rw[this];exact q
  ·simp[D.dep] at hn
  ·simp[D.dep] at hn
  ·cases k
 |succ n IH=>
  intro a b x y A hn k h g hu
  have k0:=k
  unfold D.like at k
  split at k
  ·obtain⟨t,rfl⟩:=h.int_inv;obtain⟨u,rfl⟩:=g.int_inv
   intro prog w E Q q
   exact wpAny_eqBool_int (by simpa [D.beq] using q)
  ·rename_i i j
   obtain⟨t,rfl⟩:=h.str_inv;obtain⟨u,rfl⟩:=g.str_inv
   intro prog w E Q q
   refine wpAny_eqBool_str ?_
   have:decide (i=j)=D.beq (.str i) (.str j):=by simp only[D.beq];by_cases e:i=j <;> simp[e]
   rw[this];exact q
  ·rename_i i j
   obtain⟨a1,vs,n1,rfl,h1,r1⟩:=h.list_inv
   obtain⟨a2,ws,n2,rfl,h2,r2⟩:=g.list_inv
   by_cases e:a1=a2
   ·subst e
    rw[beq_same h g k0]
    exact EqAt.same _
   ·refine EqAt.of_refs e ?_
    have l1:=r1.length
    have l2:=r2.length
    have hc:cLine=9900:=rfl
    simp only[D.dep] at hu hn
    simp only[D.beq]
    by_cases hl:i.length=j.length
    ·rw[←all_eAt i j hl,←l1]
     have z:=RcAt.lists (e:=eAt i j) (isList_of h1) (isList_of h2) (by simp;omega) kO (A:=A) (fun k' h1' h2'=>by
      have:=eqAts' n IH i j vs ws A.in1 kO k r1 r2 (by show A.units+1+_<_;omega) k' (by simpa using h1') (by simpa using h2')
      simpa using this)
     simpa using z
    ·rw[beqs_len i j hl]
     exact RcAt.lists_lengths (isList_of h1) (isList_of h2) (by simp;omega) kO
  ·rename_i i j
   obtain⟨a1,vs,n1,rfl,h1,r1⟩:=h.tup_inv
   obtain⟨a2,ws,n2,rfl,h2,r2⟩:=g.tup_inv
   by_cases e:a1=a2
   ·subst e
    rw[beq_same h g k0]
    exact EqAt.same _
   ·refine EqAt.of_refs e ?_
    have l1:=r1.length
    have l2:=r2.length
    have hc:cLine=9900:=rfl
    simp only[D.dep] at hu hn
    simp only[D.beq]
    rw[←all_eAt_min i j,←l1,←l2]
    have z:=RcAt.tuples (e:=eAt i j) (isTuple_of h1) (isTuple_of h2) kO (A:=A) (fun k' h1' h2'=>by
     have:=eqAts' n IH i j vs ws A.in1 kO k r1 r2 (by show A.units+1+_<_;omega) k' (by simpa using h1') (by simpa using h2')
     simpa using this)
    simpa using z
  ·cases k
theorem eqAt{a b:D}{x y:Value}{A:Around}(k:D.like a b=true)(h:R prog w (view s.heap Y) x a)(g:R prog w (view s.heap Y) y b)(hu:A.units+a.dep<9800):EqAt A s x y (D.beq a b):=eqAt_n _ a b x y A nL k h g hu
end
open AutoSeq1 (wpAny_loadPart')
section
variable{prog:Program}{w:World}{A:Around}{E:Value→Shared→Prop}{s:Shared}
theorem forIn_quiet{α β:Type}{M:Model}(f:α→β→Sem (ForInStep β))(b:β)(Q:β→Shared→Prop):∀l:List α,(∀x∈l,∀R:ForInStep β→Shared→Prop,R (.yield b) s→wpAny M A (f x b) R E s)→Q b s→wpAny M A (forIn l b f) Q E s
 |[],_,q=>by rw[List.forIn_nil];exact wpAny_pure q
 |x::l,h,q=>by
  rw[List.forIn_cons]
  exact wpAny_bind (h x zmS _ (forIn_quiet f b Q l (fun y hy=>h y (zmC _ hy)) q))
theorem ne_tupAll{a b:Addr}{xs ys:List Value}{n n2:Nat}{Q:Value→Shared→Prop}(h1:s.heap.get? a=some (tupO xs n))(h2:s.heap.get? b=some (tupO ys n2))(hl:xs.length=ys.length)(hu:A.units<cLine)
  (he:∀p∈xs.zip ys,∀(E:Value→Shared→Prop) (Q:Bool→Shared→Prop),Q true s→wpAny (model prog w) A.in1 (eqBool p.1 p.2) Q E s) (q:Q (.bool false) s):wpAny (model prog w) A (compareOp .NotEq (.ref a) (.ref b)) Q E s:=by
 refine wpAny_richCompare_same_room (op:= .NotEq) (T:="tuple") ⟨_,h1,rfl⟩ ⟨_,h2,rfl⟩ PySem.F.slot_tuple_ne (wpAny_call_entry PySem.F.slot_tuple_ne ⟨_,h1,rfl⟩ PySem.F.entry_tuple_ne ?_ (PySem.F.args_tuple_ne_2 _ _)) hu
 obtain⟨hp,g,d,tk,os⟩:=s
 have f2:=AutoSeq1.sub_tuple_tuple
 simp only[tupO] at h1 h2
 wp_walk using wpAny_loadPart' h1,wpAny_loadPart' h2,forIn_quiet _
 ·rintro ⟨x,y⟩ hm R hR
  refine wpAny_bind (he ⟨x,y⟩ (by simpa using hm) _ _ ?_)
  exact wpAny_pure hR
 ·wp_walk
  refine⟨_,rfl,?_,?_⟩
  ·intro x;cases x
  ·simpa [hl,Builtin.Tuple.tupleCompareSizes] using q
theorem eq_dict{K:Type}[DecidableEq K]{knd:KeyKind prog w K}{a b:Addr}{oa ob:Obj}{ks:List K}{vs us:List Value}(ha:a≠sysModules)(hb:b≠sysModules)(ga:s.heap.get? a=some oa)(gb:s.heap.get? b=some ob)
  (da:oa.IsDictOf knd (ks.zip vs)) (db:ob.IsDictOf knd (ks.zip us)) (hl1:ks.length=vs.length) (hl2:ks.length=us.length) (hu:A.units<cLine) (he:∀p∈vs.zip us,EqAt A.in1 s p.1 p.2 true) {Q:Bool→Shared→Prop} (q:Q true s):wpAny (model prog w) A (eqBool (.ref a) (.ref b)) Q E s:=by
 unfold eqBool
 refine wpAny_holding ?_
 split
 ·exact wpAny_pure (M:=model prog w) (E:=E) q
 have hnd:ks.Nodup:=by
  obtain⟨es,ep,_,_,_,_,hn⟩:=da
  rw[List.map_fst_zip kO] at hn
  exact hn
 have hits:∀(ks:List K) (vs us:List Value) (kb:List (K×Value)),ks.length=vs.length→ks.length=us.length→ks.Nodup→(∀p∈ks.zip us,valueAt kb p.1=some p.2)→(∀p∈vs.zip us,EqAt A.in1 s p.1 p.2 true)→KeqHits A.in1 s kb (ks.zip vs) true:=by
  intro ks
  induction ks with
  |nil=>intro vs us kb _ _ _ _ _;exact .nil
  |cons k ks ih=>
   intro vs us kb h1 h2 hn hv he
   match vs,us,h1,h2 with
   |v::vs,u::us,h1,h2=>
    have:=ih vs us kb (by simpa using h1) (by simpa using h2) (znco.mp hn).2 (fun p hp=>hv p (zmC _ hp)) fun p hp=>he p (zmC _ hp)
    exact .hit (e:=true) (b:=true) (hv (k,u) zmS) (he (v,u) zmS) this
 have hval:∀(ks:List K) (us:List Value),ks.Nodup→∀p∈ks.zip us,valueAt (ks.zip us) p.1=some p.2:=by
  intro ks
  induction ks with
  |nil=>intro us _ p hp;cases hp
  |cons k ks ih=>
   intro us hn p hp
   match us with
   |[]=>cases hp
   |u::us=>
    rcases zcon.mp hp with rfl|hp
    ·simp[valueAt]
    ·have hk:p.1∈ks:=(List.of_mem_zip hp).1
     have hne:k≠p.1:=fun e=>(znco.mp hn).1 (e▸hk)
     have:=ih us (znco.mp hn).2 p hp
     unfold valueAt at this ⊢
     rw[List.zip_cons_cons,List.find?_cons_of_neg (by simpa using hne)]
     exact this
 have hlen:(ks.zip vs).length=(ks.zip us).length:=by simp[←hl1,←hl2]
 refine wpAny_bind ?_
 refine keq_eq (by simpa using ha) (by simpa using hb) (Heap.dictOf_iff.mpr ⟨oa,ga,da⟩) (Heap.dictOf_iff.mpr ⟨ob,gb,db⟩) hu (fun _=>hits ks vs us _ hl1 hl2 hnd (hval ks us hnd) he) ?_
 rw[hlen]
 simp only[beq_self_eq_true,Bool.and_true]
 exact wpAny_truthy_bool q
end
section
variable{C:Cx}{A:Around}{Y:List Addr}{s:Shared}{Q:Value→Shared→Prop}
theorem eqAtsAll{H:HV}:∀(a b:List D) (xs ys:List Value),D.likes a b=true→D.beqs a b=true→(∀v∈xs,∀u∈ys,∀d∈a,∀e∈b,D.like d e=true→R C.prog C.w H v d→R C.prog C.w H u e→EqAt A s v u (D.beq d e))→Rs C.prog C.w H xs a→Rs C.prog C.w H ys b→∀p∈xs.zip ys,EqAt A s p.1 p.2 true
 |_,_,[],_,_,_,_,_,_=>fun p hp=>by cases hp
 |_,_,_::_,[],_,_,_,_,_=>fun p hp=>by cases hp
 |a::as,b::bs,x::xs,y::ys,hl,hb,h,.cons r1 rs1,.cons r2 rs2=>by
  simp only[D.likes,Bool.and_eq_true] at hl
  simp only[D.beqs,Bool.and_eq_true] at hb
  intro p hp
  rcases zcon.mp hp with rfl|hp
  ·have:=h x zmS y zmS a zmS b zmS hl.1 r1 r2
   rw[hb.1] at this;exact this
  ·exact eqAtsAll as bs xs ys hl.2 hb.2 (fun v hv u hu d hd e he=>h v (zmC _ hv) u (zmC _ hu) d (zmC _ hd) e (zmC _ he)) rs1 rs2 p hp
theorem R.dictS_inv0{H:HV}{v:Value}{l:List (Str×D)}(h:R C.prog C.w H v (.dictS l)):∃(a:Addr) (o:Obj) (ks:List Str) (vs:List Value) (ds:List D),v= .ref a∧l=ks.zip ds∧H a=some o∧o.IsDictOf (strKind C.prog C.w) (ks.zip vs)∧ks.length=vs.length∧Rs C.prog C.w H vs ds∧a≠sysModules:=by
 cases h;exact⟨_,_,_,_,_,rfl,rfl,‹_›,‹_›,‹_›,‹_›,‹_›⟩
theorem told_sound{x y:Value}{a b:D}{c:Bool}(hu:A.units+40<9800)(h:toldNe a b=some c)(hx:RD C s.heap Y x a)(hy:RD C s.heap Y y b)(q:Q (.bool c) s):wpAny C.M A (compareOp .NotEq x y) Q NE s:=by
 unfold toldNe at h
 split at h
 ·rename_i da b1 c1 da' b1' c1'
  split at h
  ·rename_i hh
   cases h
   obtain⟨hk,hlk,hlb,hlc,d1,d2,d3,hb1,hb2,hb3⟩:=hh
   obtain⟨ad,ws,m,rfl,ho,rs⟩:=hx.tup_inv
   obtain⟨ad',ws',m',rfl,ho',rs'⟩:=hy.tup_inv
   have hc:cLine=9900:=rfl
   match ws,rs,ho with
   |[v0,v1,v2],.cons r0 (.cons r1 (.cons r2 .nil)),ho=>
    match ws',rs',ho' with
    |[u0,u1,u2],.cons t0 (.cons t1 (.cons t2 .nil)),ho'=>
     refine ne_tupAll (view_get ho).1 (view_get ho').1 rfl kO ?_ q
     intro p hp E Q hq
     rcases zcon.mp hp with rfl|hp
     ·obtain⟨a1,o1,ks,vs,ds,rfl,rfl,g1,i1,l1,z1,n1⟩:=R.dictS_inv0 r0
      obtain⟨a2,o2,ks2,vs2,ds2,rfl,rfl,g2,i2,l2,z2,n2⟩:=R.dictS_inv0 t0
      have e1:ks.length=ds.length:=l1.trans z1.length
      have e2:ks2.length=ds2.length:=l2.trans z2.length
      rw[List.map_fst_zip kO,List.map_fst_zip kO] at hk
      subst hk
      rw[List.map_snd_zip kO,List.map_snd_zip kO] at hlk hb1
      rw[List.map_snd_zip kO] at d1
      refine eq_dict n1 n2 (view_get g1).1 (view_get g2).1 i1 i2 l1 l2 (by show A.units+1<_;omega) (eqAtsAll ds ds2 vs vs2 hlk hb1 (fun v _ u _ d hd e _ hl rv ru=>eqAt hl rv ru ?_) z1 z2) hq
      have:=dep_mem hd
      show A.units+1+1+_<_
      omega
     ·rcases zcon.mp hp with rfl|hp
      ·have:=eqAt (A:=A.in1) hlb r1 t1 (by show A.units+1+_<_;omega)
       rw[hb2] at this
       exact this _ _ _ _ hq
      ·rcases zcon.mp hp with rfl|hp
       ·have:=eqAt (A:=A.in1) hlc r2 t2 (by show A.units+1+_<_;omega)
        rw[hb3] at this
        exact this _ _ _ _ hq
       ·cases hp
  ·cases h
 ·cases h
end
section
variable{C:Cx}{n:Nat}{r:Ev}{k:Bool}{A:Around}{env:Env}{Y:List Addr}{l:Loc}{s:Shared}{Q:Value→Shared→Prop}
theorem ne_lists{i j:List D}{x y:Value}(k0:D.like (.list i) (.list j)=true)(h:RD C s.heap Y x (.list i))(g:RD C s.heap Y y (.list j))(hu:A.units+(D.list i).dep<9800):RcNeAt A s x y (!D.beqs i j):=by
 obtain⟨a1,vs,n1,rfl,h1,r1⟩:=h.list_inv
 obtain⟨a2,ws,n2,rfl,h2,r2⟩:=g.list_inv
 have l1:=r1.length
 have l2:=r2.length
 have hc:cLine=9900:=rfl
 simp only[D.dep] at hu
 by_cases hl:i.length=j.length
 ·rw[←all_eAt i j hl,←l1]
  have z:=RcNeAt.lists (e:=eAt i j) (isList_of h1) (isList_of h2) (by simp;omega) kO (A:=A) (fun k' h1' h2'=>by
   have:=eqAts' _ (eqAt_n (D.deps i)) i j vs ws A.in1 nL (by simpa [D.like] using k0) r1 r2 (by show A.units+1+_<_;omega) k' (by simpa using h1') (by simpa using h2')
   simpa using this)
  simpa using z
 ·rw[beqs_len i j hl]
  exact RcNeAt.lists_lengths (isList_of h1) (isList_of h2) (by simp;omega) kO
theorem ne_tups{i j:List D}{x y:Value}(k0:D.like (.tup i) (.tup j)=true)(h:RD C s.heap Y x (.tup i))(g:RD C s.heap Y y (.tup j))(hu:A.units+(D.tup i).dep<9800):RcNeAt A s x y (!D.beqs i j):=by
 obtain⟨a1,vs,n1,rfl,h1,r1⟩:=h.tup_inv
 obtain⟨a2,ws,n2,rfl,h2,r2⟩:=g.tup_inv
 have l1:=r1.length
 have l2:=r2.length
 have hc:cLine=9900:=rfl
 simp only[D.dep] at hu
 rw[←all_eAt_min i j,←l1,←l2]
 have z:=RcNeAt.tuples (e:=eAt i j) (isTuple_of h1) (isTuple_of h2) kO (A:=A) (fun k' h1' h2'=>by
  have:=eqAts' _ (eqAt_n (D.deps i)) i j vs ws A.in1 nL (by simpa [D.like] using k0) r1 r2 (by show A.units+1+_<_;omega) k' (by simpa using h1') (by simpa using h2')
  simpa using this)
 simpa using z
theorem eq_lists{i j:List D}{x y:Value}(k0:D.like (.list i) (.list j)=true)(h:RD C s.heap Y x (.list i))(g:RD C s.heap Y y (.list j))(hu:A.units+(D.list i).dep<9800)(q:Q (.bool (D.beqs i j)) s):wpAny C.M A (compareOp .Eq x y) Q NE s:=by
 obtain⟨a1,vs,n1,rfl,h1,r1⟩:=h.list_inv
 obtain⟨a2,ws,n2,rfl,h2,r2⟩:=g.list_inv
 have l1:=r1.length
 have l2:=r2.length
 have hc:cLine=9900:=rfl
 simp only[D.dep] at hu
 by_cases hl:i.length=j.length
 ·rw[←all_eAt i j hl,←l1] at q
  exact eq_listAt (e:=eAt i j) (isList_of h1) (isList_of h2) (by simp;omega) kO (fun k' h1' h2'=>by
   have:=eqAts' _ (eqAt_n (D.deps i)) i j vs ws A.in1 nL (by simpa [D.like] using k0) r1 r2 (by show A.units+1+_<_;omega) k' (by simpa using h1') (by simpa using h2')
   simpa using this) (by simpa using q)
 ·rw[beqs_len i j hl] at q
  exact eq_list_lengthsAt (isList_of h1) (isList_of h2) (by simp;omega) kO q
theorem eq_tups{i j:List D}{x y:Value}(k0:D.like (.tup i) (.tup j)=true)(h:RD C s.heap Y x (.tup i))(g:RD C s.heap Y y (.tup j))(hu:A.units+(D.tup i).dep<9800)(q:Q (.bool (D.beqs i j)) s):wpAny C.M A (compareOp .Eq x y) Q NE s:=by
 obtain⟨a1,vs,n1,rfl,h1,r1⟩:=h.tup_inv
 obtain⟨a2,ws,n2,rfl,h2,r2⟩:=g.tup_inv
 have l1:=r1.length
 have l2:=r2.length
 have hc:cLine=9900:=rfl
 simp only[D.dep] at hu
 rw[←all_eAt_min i j,←l1,←l2] at q
 exact eq_tupleAt (e:=eAt i j) (isTuple_of h1) (isTuple_of h2) kO (fun k' h1' h2'=>by
  have:=eqAts' _ (eqAt_n (D.deps i)) i j vs ws A.in1 nL (by simpa [D.like] using k0) r1 r2 (by show A.units+1+_<_;omega) k' (by simpa using h1') (by simpa using h2')
  simpa using this) (by simpa using q)
theorem beqs_det{H:HV}(n:Nat)(IH:∀(a b c:D) (v:Value),a.dep≤n→D.like a c=true→D.like b c=true→R C.prog C.w H v a→R C.prog C.w H v b→D.beq a c=D.beq b c):
  ∀(a b c:List D) (v:List Value),D.deps a≤n→D.likes a c=true→D.likes b c=true→Rs C.prog C.w H v a→Rs C.prog C.w H v b→D.beqs a c=D.beqs b c:=by
 intro a
 induction a with
 |nil=>intro b c v _ _ _ h g;cases h;cases g;rfl
 |cons a ar ih=>
  intro b c v hn k1 k2 h g
  cases h with
  |cons h hr=>
   cases g with
   |cons g gr=>
    cases c with
    |nil=>simp[D.beqs]
    |cons c cr=>
     simp only[D.likes,Bool.and_eq_true] at k1 k2
     simp only[D.deps] at hn
     simp only[D.beqs]
     rw[IH _ _ _ _ kO k1.1 k2.1 h g,ih _ _ _ kO k1.2 k2.2 hr gr]
theorem beq_det_n{H:HV}(n:Nat):∀(a b c:D) (v:Value),a.dep≤n→D.like a c=true→D.like b c=true→R C.prog C.w H v a→R C.prog C.w H v b→D.beq a c=D.beq b c:=by
 induction n with
 |zero=>
  intro a b c v hn k1 k2 h g
  unfold D.like at k1
  split at k1
  ·cases b with
   |int j=>cases h;cases g;rfl
   |_=>simp[D.like] at k2
  ·cases b with
   |str j=>cases h;cases g;rfl
   |_=>simp[D.like] at k2
  ·simp[D.dep] at hn
  ·simp[D.dep] at hn
  ·cases k1
 |succ n IH=>
  intro a b c v hn k1 k2 h g
  unfold D.like at k1
  split at k1
  ·cases b with
   |int j=>cases h;cases g;rfl
   |_=>simp[D.like] at k2
  ·cases b with
   |str j=>cases h;cases g;rfl
   |_=>simp[D.like] at k2
  ·rename_i i m
   cases b with
   |list j=>
    simp only[D.like] at k2
    obtain⟨a1,vs,n1,rfl,h1,r1⟩:=h.list_inv
    obtain⟨a2,ws,n2,e,h2,r2⟩:=g.list_inv
    cases e
    rw[h1] at h2
    have e:vs=ws:=by
     simp only[lstO,Option.some.injEq,Obj.mk.injEq,Data.seq.injEq] at h2
     simpa using congrArg Array.toList h2.2.2.1.1
    subst e
    simp only[D.beq]
    simp only[D.dep] at hn
    exact beqs_det n IH _ _ _ _ kO k1 k2 r1 r2
   |_=>simp[D.like] at k2
  ·rename_i i m
   cases b with
   |tup j=>
    simp only[D.like] at k2
    obtain⟨a1,vs,n1,rfl,h1,r1⟩:=h.tup_inv
    obtain⟨a2,ws,n2,e,h2,r2⟩:=g.tup_inv
    cases e
    rw[h1] at h2
    have e:vs=ws:=by
     simp only[tupO,Option.some.injEq,Obj.mk.injEq,Data.seq.injEq] at h2
     simpa using congrArg Array.toList h2.2.2.1.1
    subst e
    simp only[D.beq]
    simp only[D.dep] at hn
    exact beqs_det n IH _ _ _ _ kO k1 k2 r1 r2
   |_=>simp[D.like] at k2
  ·cases k1
theorem any_map{vs:List Value}{ds:List D}{H:HV}{x:D}(e:Value→Bool):Rs C.prog C.w H vs ds→(∀v d,v∈vs→R C.prog C.w H v d→d∈ds→e v=D.beq d x)→vs.any e=ds.any (fun y=>D.beq y x):=by
 intro h
 induction vs generalizing ds with
 |nil=>intro _;cases h;rfl
 |cons v vs ih=>
  cases h with
  |cons h hr=>
   intro he
   rw[List.any_cons,List.any_cons,he v _ zmS h zmS,ih hr fun v d hv hr hd=>he v d (zmC _ hv) hr (zmC _ hd)]
theorem eqs_of{vs:List Value}{ds:List D}{x:Value}{d:D}(hs:Rs C.prog C.w (view s.heap Y) vs ds)(hx:RD C s.heap Y x d)(hl:ds.all (fun y=>D.like y d&&decide (D.dep y≤20))=true)(hu:A.units+21<9800):
  ∃e:Value→Bool,(∀y,y∈vs→EqAt A s y x (e y))∧vs.any e=ds.any (fun y=>D.beq y d)∧(∀v d',v∈vs→d'∈ds→R C.prog C.w (view s.heap Y) v d'→e v=D.beq d' d):=by
 have key:∀v∈vs,∃b,EqAt A s v x b∧∀d',d'∈ds→R C.prog C.w (view s.heap Y) v d'→b=D.beq d' d:=by
  intro v hv
  obtain⟨j,hj⟩:=List.mem_iff_getElem?.mp hv
  obtain⟨d1,hd1,hr1⟩:=hs.getV hj
  have hm:d1∈ds:=List.mem_of_getElem? hd1
  have hl1:=List.all_eq_true.mp hl d1 hm
  simp only[Bool.and_eq_true,decide_eq_true_eq] at hl1
  refine⟨D.beq d1 d,eqAt hl1.1 hr1 hx kO,fun d' hd' hr'=> ?_⟩
  have hl2:=List.all_eq_true.mp hl d' hd'
  simp only[Bool.and_eq_true,decide_eq_true_eq] at hl2
  exact beq_det_n _ _ _ _ _ nL hl1.1 hl2.1 hr1 hr'
 classical
 have he:∀v d',v∈vs→d'∈ds→R C.prog C.w (view s.heap Y) v d'→(if h:v∈vs then (key v h).choose else false)=D.beq d' d:=fun v d' hv hd hr=>by
  simp only[hv,dif_pos]
  exact(key v hv).choose_spec.2 d' hd hr
 refine⟨fun v=>if h:v∈vs then (key v h).choose else false,fun y hy=> ?_,?_,he⟩
 ·simp only[hy,dif_pos]
  exact(key y hy).choose_spec.1
 ·exact any_map _ hs fun v d' hv hr hd=>he v d' hv hd hr
theorem dict_val{K:Type}[DecidableEq K]{H:HV}:∀{ks:List K} {vs:List Value} {ds:List D},Rs C.prog C.w H vs ds→∀k:K,
  (∀d,(ks.zip ds).lookup k=some d→∃v,valueAt (ks.zip vs) k=some v∧R C.prog C.w H v d)∧((ks.zip ds).lookup k=none→valueAt (ks.zip vs) k=none)
 |[],_,_,_,k=>by simp[valueAt]
 |q::ks,_,_,.nil,k=>by simp[valueAt]
 |q::ks,v::vs,d::ds,.cons h r,k=>by
  have ih:=dict_val (ks:=ks) r k
  by_cases e:q=k
  ·subst e;simp[valueAt];exact h
  ·have e':(k==q)=false:=by simpa using fun x=>e x.symm
   simp only[List.zip_cons_cons,List.lookup_cons,e',valueAt,List.find?_cons,e,decide_false]
   exact ih
theorem R.dictS_inv{H:HV}{v:Value}{l:List (Str×D)}(h:R C.prog C.w H v (.dictS l)):∃(a:Addr) (o:Obj) (ks:List Str) (vs:List Value) (ds:List D),v= .ref a∧l=ks.zip ds∧H a=some o∧o.IsDictOf (strKind C.prog C.w) (ks.zip vs)∧ks.length=vs.length∧Rs C.prog C.w H vs ds∧a≠sysModules:=by
 cases h;exact⟨_,_,_,_,_,rfl,rfl,‹_›,‹_›,‹_›,‹_›,‹_›⟩
theorem R.dictI_inv{H:HV}{v:Value}{l:List (Int×D)}(h:R C.prog C.w H v (.dictI l)):∃(a:Addr) (o:Obj) (ks:List Int) (vs:List Value) (ds:List D),v= .ref a∧l=ks.zip ds∧H a=some o∧o.IsDictOf (intKind C.prog C.w) (ks.zip vs)∧ks.length=vs.length∧Rs C.prog C.w H vs ds∧a≠sysModules:=by
 cases h;exact⟨_,_,_,_,_,rfl,rfl,‹_›,‹_›,‹_›,‹_›,‹_›⟩
theorem in_sound{x y:Value}{a b:D}{c:Bool}(p:AOk (n+1) A)(h:inD a b=some c)(hx:RD C s.heap Y x a)(hy:RD C s.heap Y y b)(q:∀tk,s.toks≤tk→Q (.bool c) { s with toks:=tk }):wpAny C.M A (compareOp .In x y) Q NE s:=by
 have hu:=p.units
 unfold inD at h
 split at h
 ·split at h
  ·rename_i ds hl;cases h
   obtain⟨a2,ws,n2,rfl,h2,r2⟩:=hy.list_inv
   obtain⟨e,he,hq,_⟩:=eqs_of (A:=A.in1) r2 hx hl (by show A.units+1+21<9800;omega)
   refine in_listAt e (isList_of h2) (fun y hy=>he y (by simpa using hy)) ?_
   have:=q s.toks nL
   rw[←hq] at this
   simpa using this
  ·cases h
 ·cases h;obtain⟨t,rfl⟩:=hx.str_inv;obtain⟨u,rfl⟩:=hy.str_inv
  exact SB.contains (q s.toks nL)
 ·cases h
  obtain⟨t,rfl⟩:=hx.str_inv
  rename_i kk ll
  obtain⟨a2,o,ks,vs,ds,rfl,rfl,h2,hd,hlen,hr,hne⟩:=R.dictS_inv hy
  have hD:s.heap.DictOf (strKind C.prog C.w) a2 (ks.zip vs):=Heap.dictOf_iff.mpr ⟨o,(view_get h2).1,hd⟩
  refine wpAny_in_of (strKind_is _ _ kk t) (by simpa using hne) hD.mapOf ?_
  have e:(valueAt (ks.zip vs) kk).isSome=((ks.zip ds).lookup kk).isSome:=by
   have z:=dict_val (ks:=ks) hr kk
   cases q:(ks.zip ds).lookup kk with
   |none=>rw[z.2 q];rfl
   |some d=>obtain⟨v,e1,_⟩:=z.1 d q;rw[e1];rfl
  rw[e]
  exact q _ (Nat.le_succ _)
 ·cases h
theorem notIn_sound{x y:Value}{a b:D}{c:Bool}(p:AOk (n+1) A)(h:inD a b=some c)(hx:RD C s.heap Y x a)(hy:RD C s.heap Y y b)(q:∀tk,s.toks≤tk→Q (.bool (!c)) { s with toks:=tk }):wpAny C.M A (compareOp .NotIn x y) Q NE s:=by
 have hu:=p.units
 unfold inD at h
 split at h
 ·split at h
  ·rename_i ds hl;cases h
   obtain⟨a2,ws,n2,rfl,h2,r2⟩:=hy.list_inv
   obtain⟨e,he,hq,_⟩:=eqs_of (A:=A.in1) r2 hx hl (by show A.units+1+21<9800;omega)
   refine notIn_listAt e (isList_of h2) (fun y hy=>he y (by simpa using hy)) ?_
   have:=q s.toks nL
   rw[←hq] at this
   simpa using this
  ·cases h
 ·cases h;obtain⟨t,rfl⟩:=hx.str_inv;obtain⟨u,rfl⟩:=hy.str_inv
  exact SB.notContains (q s.toks nL)
 ·cases h
  obtain⟨t,rfl⟩:=hx.str_inv
  rename_i kk ll
  obtain⟨a2,o,ks,vs,ds,rfl,rfl,h2,hd,hlen,hr,hne⟩:=R.dictS_inv hy
  have hD:s.heap.DictOf (strKind C.prog C.w) a2 (ks.zip vs):=Heap.dictOf_iff.mpr ⟨o,(view_get h2).1,hd⟩
  refine wpAny_notIn_of (strKind_is _ _ kk t) (by simpa using hne) hD.mapOf ?_
  have e:(valueAt (ks.zip vs) kk).isSome=((ks.zip ds).lookup kk).isSome:=by
   have z:=dict_val (ks:=ks) hr kk
   cases q:(ks.zip ds).lookup kk with
   |none=>rw[z.2 q];rfl
   |some d=>obtain⟨v,e1,_⟩:=z.1 d q;rw[e1];rfl
  rw[e]
  exact q _ (Nat.le_succ _)
 ·cases h
theorem cmp_sound{op:CmpOp}{x y:Value}{a b:D}{c:Bool}(p:AOk (n+1) A)(h:cmpD op a b=some c)(hx:RD C s.heap Y x a)(hy:RD C s.heap Y y b)(q:∀tk,s.toks≤tk→Q (.bool c) { s with toks:=tk }):wpAny C.M A (compareOp op x y) Q NE s:=by
 have hu:=p.units
 have q0:=q s.toks nL
 unfold cmpD at h
 split at h
 ·split at h
  ·rename_i hl;cases h
   simp only[Bool.and_eq_true,decide_eq_true_eq] at hl
   obtain⟨hl,hdp⟩:=hl
   have hl0:=hl
   unfold D.like at hl
   split at hl
   ·obtain⟨t,rfl⟩:=hx.int_inv;obtain⟨u,rfl⟩:=hy.int_inv
    exact P.eq_int (by simpa [D.beq] using q0)
   ·obtain⟨t,rfl⟩:=hx.str_inv;obtain⟨u,rfl⟩:=hy.str_inv
    exact PyProof.Rows.eq_str (by simpa [D.beq] using q0)
   ·exact eq_lists hl0 hx hy kO (by simpa [D.beq] using q0)
   ·exact eq_tups hl0 hx hy kO (by simpa [D.beq] using q0)
   ·cases hl
  ·cases h
 ·split at h
  ·rename_i hl;cases h
   simp only[Bool.and_eq_true,decide_eq_true_eq] at hl
   obtain⟨hl,hdp⟩:=hl
   have hl0:=hl
   unfold D.like at hl
   split at hl
   ·obtain⟨t,rfl⟩:=hx.int_inv;obtain⟨u,rfl⟩:=hy.int_inv
    exact P.ne_int (by simpa [D.beq,bne] using q0)
   ·obtain⟨t,rfl⟩:=hx.str_inv;obtain⟨u,rfl⟩:=hy.str_inv
    exact PyProof.Rows.ne_str (by simpa [D.beq,bne] using q0)
   ·exact ne_lists hl0 hx hy kO C.prog C.w NE Q (by simpa [D.beq] using q0)
   ·exact ne_tups hl0 hx hy kO C.prog C.w NE Q (by simpa [D.beq] using q0)
   ·cases hl
  ·exact told_sound kO h hx hy q0
 ·cases h;obtain⟨t,rfl⟩:=hx.int_inv;obtain⟨u,rfl⟩:=hy.int_inv
  exact P.lt_int q0
 ·cases h;obtain⟨t,rfl⟩:=hx.int_inv;obtain⟨u,rfl⟩:=hy.int_inv
  exact P.le_int q0
 ·cases h;obtain⟨t,rfl⟩:=hx.int_inv;obtain⟨u,rfl⟩:=hy.int_inv
  exact P.gt_int q0
 ·cases h;obtain⟨t,rfl⟩:=hx.int_inv;obtain⟨u,rfl⟩:=hy.int_inv
  exact P.ge_int q0
 ·exact in_sound p h hx hy q
 ·cases hi:inD a b with
  |none=>rw[hi] at h;cases h
  |some c'=>
   rw[hi] at h
   cases h
   exact notIn_sound p hi hx hy q
 ·cases h
  rw[hx.none_inv,hy.none_inv]
  exact PySem.is_none (by simpa using q0)
 ·cases h
  obtain⟨t,rfl⟩:=hx.str_inv
  rw[hy.none_inv]
  exact PySem.is_none q0
 ·cases h
end
section
variable{C:Cx}{n:Nat}{r:Ev}{k:Bool}{A:Around}{env:Env}{Y:List Addr}{l:Loc}{s:Shared}{Q:Value→Shared→Prop}
theorem sub_ops(slice:Expr)(o i:Value):∃ops,subscripted slice false o i=operate ops (getItem o i):=by
 unfold subscripted
 split
 ·exact⟨_,rfl⟩
 ·rename_i h;cases h
 ·exact⟨_,rfl⟩
theorem idx_lt{i:Int}{m j:Nat}(h:idx? i m=some j):j<m∧((0≤i∧i<m∧j=i.toNat)∨(i<0∧-(m:Int)≤i∧j=(i+m).toNat)):=by
 unfold idx? at h
 split at h
 ·split at h
  ·cases h;omega
  ·cases h
 ·split at h
  ·cases h;omega
  ·cases h
theorem idx_seq{i:Int}{m j:Nat}(h:idx? i m=some j):seqIndex? i m=some j:=by
 obtain⟨h1,h2⟩:=idx_lt h
 unfold seqIndex?
 rcases h2 with ⟨h2,h3,rfl⟩|⟨h2,h3,rfl⟩
 ·simp;omega
 ·simp;omega
theorem item_sound{value slice:Expr}{x y:Value}{a b d:D}(h0:itemD a b=some d)(hx0:RD C s.heap Y x a)(hy:RD C s.heap Y y b)(q:Kq C Y d s Q):wpAny C.M A (subscriptTail value slice x y) Q NE s:=by
 obtain⟨ops,hops⟩:=sub_ops slice x y
 have hlim:lim=1000000:=rfl
 have h:itemD0 a.flat b=some d:=h0
 have hx:=hx0.flat
 clear h0 hx0
 generalize a.flat=a at h hx
 unfold itemD0 at h
 split at h
 ·rename_i ds i
  split at h
  rotate_left
  ·cases h
  rename_i hs
  cases hi:idx? i ds.length with
  |none=>rw[hi] at h;cases h
  |some j=>
   rw[hi] at h
   have h:ds[j]? =some d:=h
   obtain⟨t,rfl⟩:=hy.int_inv
   obtain⟨a1,vs,n1,rfl,h1,r1⟩:=hx.list_inv
   obtain⟨v,hv,hr⟩:=r1.get h
   have hlen:=r1.length
   obtain⟨hj,hcase⟩:=idx_lt hi
   refine tail_any (isList_of h1).typeIs slot_list_getitem.lookup ?_ hops
   rcases hcase with ⟨h2,h3,rfl⟩|⟨h2,h3,rfl⟩
   ·exact wpAny_getItem_list (isList_of h1) h2 kO (by simpa using hv) (q _ _ (KP.refl s) hr)
   ·exact wpAny_getItem_list_neg (isList_of h1) h2 (by simp;omega) kO (by simp[hlen];exact hv) (q _ _ (KP.refl s) hr)
 ·rename_i ds i
  split at h
  rotate_left
  ·cases h
  rename_i hs
  cases hi:idx? i ds.length with
  |none=>rw[hi] at h;cases h
  |some j=>
   rw[hi] at h
   have h:ds[j]? =some d:=h
   obtain⟨t,rfl⟩:=hy.int_inv
   obtain⟨a1,vs,n1,rfl,h1,r1⟩:=hx.tup_inv
   obtain⟨v,hv,hr⟩:=r1.get h
   have hlen:=r1.length
   obtain⟨hj,hcase⟩:=idx_lt hi
   refine tail_any (isTuple_of h1).typeIs slot_tuple_getitem.lookup ?_ hops
   exact getItem_tuple (isTuple_of h1) kO kO (by simp only[List.size_toArray,hlen];exact idx_seq hi) (by simpa using hv) (q _ _ (KP.refl s) hr)
 ·rename_i x i
  split at h
  rotate_left
  ·cases h
  rename_i hs
  cases hi:idx? i x.length with
  |none=>rw[hi] at h;cases h
  |some j=>
   rw[hi] at h
   have h:(x.cps[j]?).map (fun c=>D.str ⟨#[c]⟩)=some d:=h
   obtain⟨t,rfl⟩:=hy.int_inv
   obtain⟨u,rfl⟩:=hx.str_inv
   obtain⟨hj,hcase⟩:=idx_lt hi
   cases hc:x.cps[j]? with
   |none=>rw[hc] at h;cases h
   |some c=>
    rw[hc] at h;cases h
    refine tail_any (T:="str") rfl slot_str_getitem.lookup ?_ hops
    refine P.getItem_str (c:=c) (by simp;omega) ?_ (q _ _ (KP.tok (Nat.le_succ _)) (.str _ _))
    rw[idx_seq hi];exact hc
 ·rename_i ll kk
  obtain⟨t,rfl⟩:=hy.str_inv
  obtain⟨a2,o,ks,vs,ds,rfl,rfl,h2,hd,hlen,hr,hne⟩:=R.dictS_inv hx
  have hD:s.heap.DictOf (strKind C.prog C.w) a2 (ks.zip vs):=Heap.dictOf_iff.mpr ⟨o,(view_get h2).1,hd⟩
  obtain⟨v,hv,hrv⟩:=(dict_val (ks:=ks) hr kk).1 d h
  refine tail_any hD.mapOf.typeIs slot_dict_getitem.lookup ?_ hops
  exact wpAny_getItem_of (strKind_is _ _ kk t) hD.mapOf hv (q _ _ (KP.tok (Nat.le_succ _)) hrv)
 ·rename_i ll kk
  obtain⟨t,rfl⟩:=hy.int_inv
  obtain⟨a2,o,ks,vs,ds,rfl,rfl,h2,hd,hlen,hr,hne⟩:=R.dictI_inv hx
  have hD:s.heap.DictOf (intKind C.prog C.w) a2 (ks.zip vs):=Heap.dictOf_iff.mpr ⟨o,(view_get h2).1,hd⟩
  obtain⟨v,hv,hrv⟩:=(dict_val (ks:=ks) hr kk).1 d h
  refine tail_any hD.mapOf.typeIs slot_dict_getitem.lookup ?_ hops
  exact wpAny_getItem_of (intKind_is _ _ kk t) hD.mapOf hv (q _ _ (KP.tok (Nat.le_succ _)) hrv)
 ·cases h
theorem Rs.pick{H:HV}{vs:List Value}{ds:List D}(h:Rs C.prog C.w H vs ds):∀(js:List Nat),Rs C.prog C.w H (js.filterMap (vs[·]?)) (js.filterMap (ds[·]?))
 |[]=> .nil
 |j::js=>by
  have ih:=Rs.pick h js
  rw[List.filterMap_cons,List.filterMap_cons]
  cases e:ds[j]? with
  |none=>
   have:vs[j]? =none:=by
    have hl:=h.length
    rw[List.getElem?_eq_none_iff] at e ⊢;omega
   rw[this];exact ih
  |some d=>
   obtain⟨v,hv,hr⟩:=h.get e
   rw[hv];exact .cons hr ih
theorem slice_list_sound{value slice:Expr}{x vl vu vs:Value}{ds:List D}{lo hi st:Option Int}{sl:Addr}(hx:RD C s.heap Y x (.list ds))(hs:s.heap.IsSliceOf sl vl vu vs)(pl:IsPart vl lo)(pu:IsPart vu hi)(ps:IsPart vs st)(h0:st≠some 0)(hlen:ds.length≤lim)
  (hP:C.P∈Y) (hY:∀a∈Y,a<s.heap.objs.size) (q:Kq C Y (.list (pick ds lo hi st)) s Q):wpAny C.M A (subscriptTail value slice x (.ref sl)) Q NE s:=by
 obtain⟨ops,hops⟩:=sub_ops slice x (.ref sl)
 obtain⟨a1,ws,n1,rfl,h1,r1⟩:=hx.list_inv
 have l1:=r1.length
 refine tail_any (isList_of h1).typeIs slot_list_getitem.lookup ?_ hops
 refine wpAny_getItem_list_slice (isList_of h1) hs pl pu ps h0 (q _ _ (KP.push nL) ?_) (by simp only[List.size_toArray];exact sz kO)
 refine .list (vs:=(sliceRange (sliceBounds lo hi st ds.length).1 (sliceBounds lo hi st ds.length).2.1 (sliceBounds lo hi st ds.length).2.2).filterMap (ws[·]?)) (n:=0) ?_ ?_
 ·have:=new_view (tk:=s.toks) (o:=lstO ((sliceRange (sliceBounds lo hi st ds.length).1 (sliceBounds lo hi st ds.length).2.1 (sliceBounds lo hi st ds.length).2.2).filterMap (ws[·]?)) 0) hY rfl
  simpa [lstO,slicePick,l1] using this
 ·exact RDs.kp (KP.push nL) hP (r1.pick _)
theorem slice_str_sound{value slice:Expr}{x:Str}{v:Value}{lo hi:Option (Int×Tok)}{sl:Addr}(hx:RD C s.heap Y v (.str x))(hs:s.heap.IsSlice sl lo hi none)(hlen:x.length≤lim)
  (q:Kq C Y (.str (Txt.slice x (lo.map (·.1)) (hi.map (·.1)))) s Q):wpAny C.M A (subscriptTail value slice v (.ref sl)) Q NE s:=by
 obtain⟨ops,hops⟩:=sub_ops slice v (.ref sl)
 obtain⟨t,rfl⟩:=hx.str_inv
 refine tail_any (T:="str") rfl slot_str_getitem.lookup ?_ hops
 refine wpAny_getItem_str_slice hs rfl ?_
 unfold sliceMade slicePicked
 unfold Txt.slice at q
 simp only[Option.map_none,Option.getD_none]
 split
 ·rename_i h
  rw[if_pos h] at q
  exact q _ _ (KP.refl s) (.str _ _)
 ·rename_i h
  rw[if_neg h] at q
  refine⟨?_,q _ _ (KP.tok (Nat.le_succ _)) (.str _ _)⟩
  refine znT ?_ (sz hlen)
  show (List.toArray _).size≤_
  rw[List.size_toArray]
  exact znT (List.length_filterMap_le _ _) (sliceIndices_le _ _ _)
end
section
variable{C:Cx}{n:Nat}{r:Ev}{k:Bool}{A:Around}{env:Env}{Y:List Addr}{l:Loc}{s:Shared}{Q:Value→Shared→Prop}
theorem starEach_plain{e:Expr}{rest:List Expr}(h:isStarred e=false):starEach (e::rest) env=(false,eval e env)::starEach rest env:=by
 cases e <;> first|rfl|(simp[isStarred] at h)
theorem plain_any{pos:Pos}{es:List Expr}(h:∀e∈es,isStarred e=false):(backTo pos (starEach es env)).any (·.1)=false:=by
 induction es with
 |nil=>rfl
 |cons e es ih=>
  rw[starEach_plain (h e zmS)]
  have:=ih fun x hx=>h x (zmC _ hx)
  simp only[backTo,List.map_cons,List.any_cons] at this ⊢
  simpa using this
theorem Ess_plain{sc:Scope}:∀{es:List Expr} {ds:List D},Ess r k sc l es=some ds→∀e∈es,isStarred e=false
 |[],_,_,e,he=>nomatch he
 |e::es,ds,h,x,hx=>by
  unfold Ess at h
  split at h
  ·cases h
  ·rename_i hs
   rcases zcon.mp hx with rfl|hx
   ·simpa using hs
   ·cases h1:r.E k sc l e with
    |none=>rw[h1] at h;cases h
    |some d=>
     rw[h1] at h
     cases h2:Ess r k sc l es with
     |none=>simp[h2] at h
     |some ds'=>exact Ess_plain h2 x hx
theorem Ess_len{sc:Scope}:∀{es:List Expr} {ds:List D},Ess r k sc l es=some ds→es.length=ds.length
 |[],_,h=>by unfold Ess at h;cases h;rfl
 |e::es,ds,h=>by
  unfold Ess at h
  split at h
  ·cases h
  ·cases h1:r.E k sc l e with
   |none=>rw[h1] at h;cases h
   |some d=>
    rw[h1] at h
    cases h2:Ess r k sc l es with
    |none=>simp[h2] at h
    |some ds'=>
     simp[h2] at h
     subst h
     rw[List.length_cons,List.length_cons,Ess_len h2]
theorem args_sound(S:SE C n r){pos:Pos}:∀{es:List Expr} {ds:List D} {s:Shared} {Q:List Value→Shared→Prop},Pre C n k A env Y l s→Ess r k env.scope l es=some ds→
  (∀vs s',KP C s s'→Pre C n k A env Y l s'→RDs C s'.heap Y vs ds→Q vs s')→wpAny C.M A (spliced (backTo pos (starEach es env))) Q NE s
 |[],ds,s,Q,p,h,q=>by
  unfold Ess at h;cases h
  exact args_nil (q [] s (KP.refl s) p .nil)
 |e::es,ds,s,Q,p,h,q=>by
  have hst:=Ess_plain h e zmS
  unfold Ess at h
  rw[if_neg (by rw[hst];exact Bool.false_ne_true)] at h
  cases h1:r.E k env.scope l e with
  |none=>rw[h1] at h;cases h
  |some d=>
   rw[h1] at h
   cases h2:Ess r k env.scope l es with
   |none=>simp[h2] at h
   |some ds'=>
    simp[h2] at h
    subst h
    refine args_cons (S.at p h1 fun v s₁ k₁ p₁ r₁=> ?_) (starEach_plain hst)
    exact args_sound S p₁ h2 fun vs s₂ k₂ p₂ r₂=>q (v::vs) s₂ (k₁.trans k₂) p₂ (.cons (r₁.kp k₂ p.hP) r₂)
theorem List_sound(S:SE C n r){pos:Pos}{es:List Expr}{ds:List D}(p:Pre C n k A env Y l s)(h:Ess r k env.scope l es=some ds)(hl:ds.length≤lim)(q:Kq C Y (.list ds) s Q):wpAny C.M A (eval (.List es pos) env) Q NE s:=by
 refine wpAny_List (args_sound S p h fun vs s₁ k₁ p₁ r₁=> ?_)
 have hlen:=r₁.length
 refine⟨by rw[hlen];exact sz hl,q _ _ (k₁.trans (KP.push nL)) (.list (vs:=vs) (n:=0) ?_ ?_)⟩
 ·exact new_view (tk:=s₁.toks) (o:=lstO vs 0) p₁.lt rfl
 ·exact RDs.kp (KP.push nL) p.hP r₁
theorem Tuple_sound(S:SE C n r){pos:Pos}{kd:Nat}{es:List Expr}{ds:List D}(p:Pre C n k A env Y l s)(h:Ess r k env.scope l es=some ds)(hl:ds.length≤lim)(q:Kq C Y (.tup ds) s Q):wpAny C.M A (eval (.Tuple es kd pos) env) Q NE s:=by
 refine wpAny_Tuple (args_sound S p h fun vs s₁ k₁ p₁ r₁=> ?_)
 have hlen:=r₁.length
 refine⟨by rw[hlen];exact sz hl,q _ _ (k₁.trans (KP.push nL)) (.tup (vs:=vs) (n:=0) ?_ ?_)⟩
 ·exact new_view (tk:=s₁.toks) (o:=tupO vs 0) p₁.lt rfl
 ·exact RDs.kp (KP.push nL) p.hP r₁
end
open PySem.Spec
theorem strLe_iff(a b:Str):strLe a b=true↔a.cps.toList≤b.cps.toList:=by simp[strLe]
theorem strLe_trans(a b c:Str)(h:strLe a b=true)(g:strLe b c=true):strLe a c=true:=by
 rw[strLe_iff] at *;exact List.le_trans h g
theorem strLe_total(a b:Str):(strLe a b||strLe b a)=true:=by
 rw[Bool.or_eq_true,strLe_iff,strLe_iff];exact List.le_total _ _
theorem strLe_antisymm(a b:Str)(h:strLe a b=true)(g:strLe b a=true):a=b:=by
 rw[strLe_iff] at *
 have:=List.le_antisymm h g
 cases a;cases b
 simp only[Str.mk.injEq]
 exact Array.ext' this
theorem rising_pairwise:∀(p:Str) (l:List Str),risingS p l=true→(p::l).Pairwise (fun a b=>strLe a b=true)
 |p,[],_=>by simp
 |p,x::r,h=>by
  simp only[risingS,Bool.and_eq_true,Bool.not_eq_true',ltCps_eq,decide_eq_false_iff_not] at h
  have ih:=rising_pairwise x r h.2
  have hpx:strLe p x=true:=(strLe_iff _ _).mpr (List.not_lt.mp h.1)
  refine List.pairwise_cons.mpr ⟨fun y hy=> ?_,ih⟩
  rcases zcon.mp hy with rfl|hy
  ·exact hpx
  ·exact strLe_trans _ _ _ hpx (List.rel_of_pairwise_cons ih hy)
theorem sortS_eq{l l':List Str}(hp:l'.Perm l)(h:sortedS l'=true):l'=sortS l:=by
 refine List.Perm.eq_of_pairwise (le:=fun a b=>strLe a b=true) (fun a b _ _ h g=>strLe_antisymm a b h g) ?_ (List.pairwise_mergeSort strLe_trans strLe_total l) (hp.trans (List.mergeSort_perm l strLe).symm)
 cases l' with
 |nil=>exact .nil
 |cons x r=>exact rising_pairwise x r h
theorem sortI_eq{l l':List Int}(hp:l'.Perm l)(h:l'.Pairwise (·≤·)):l'=sortI l:=by
 refine List.Perm.eq_of_pairwise (le:=fun a b=>decide (a≤b)=true) (fun a b _ _ h g=>by simp at h g;omega) (h.imp fun x=>by simpa using x) (List.pairwise_mergeSort (fun a b c h g=>by simp at *;omega) (fun a b=>by simp;omega) l) (hp.trans (List.mergeSort_perm l _).symm)
section
variable{C:Cx}{n:Nat}{r:Ev}{k:Bool}{A:Around}{env:Env}{Y:List Addr}{l:Loc}{s:Shared}{Q:Value→Shared→Prop}
theorem ints_of{H:HV}:∀{vs:List Value} {ds:List D} {ns:List Int},Rs C.prog C.w H vs ds→ints? ds=some ns→IntsAre vs ns
 |_,[],ns,.nil,h=>by cases h;exact .nil
 |v::vs,d::ds,ns,.cons hv hr,h=>by
  cases d with
  |int i=>
   obtain⟨t,rfl⟩:=hv.int_inv
   simp only[ints?] at h
   cases h1:ints? ds with
   |none=>rw[h1] at h;cases h
   |some ms=>rw[h1] at h;cases h;exact .cons i t (ints_of hr h1)
  |_=>simp[ints?] at h
theorem strs_of{H:HV}:∀{vs:List Value} {ds:List D} {ns:List Str},Rs C.prog C.w H vs ds→strs? ds=some ns→StrsAre vs ns
 |_,[],ns,.nil,h=>by cases h;exact .nil
 |v::vs,d::ds,ns,.cons hv hr,h=>by
  cases d with
  |str i=>
   obtain⟨t,rfl⟩:=hv.str_inv
   simp only[strs?] at h
   cases h1:strs? ds with
   |none=>rw[h1] at h;cases h
   |some ms=>rw[h1] at h;cases h;exact .cons i t (strs_of hr h1)
  |_=>simp[strs?] at h
theorem Rs.ofInts{H:HV}:∀{vs:List Value} {ns:List Int},IntsAre vs ns→Rs C.prog C.w H vs (ns.map .int)
 |_,_,.nil=> .nil
 |_,_,.cons n t r=> .cons (.int n t) (Rs.ofInts r)
theorem Rs.ofStrs{H:HV}:∀{vs:List Value} {ns:List Str},StrsAre vs ns→Rs C.prog C.w H vs (ns.map .str)
 |_,_,.nil=> .nil
 |_,_,.cons n t r=> .cons (.str n t) (Rs.ofStrs r)
theorem ints_items:∀{vs:List Value} {ns:List Int},IntsAre vs ns→∃xs:List (Int×Tok),vs=xs.map (fun p=> .int p.1 p.2)∧xs.map (·.1)=ns
 |_,_,.nil=>⟨[],rfl,rfl⟩
 |_,_,.cons n t r=>by
  obtain⟨xs,h1,h2⟩:=ints_items r
  exact⟨(n,t)::xs,by simp[h1],by simp[h2]⟩
theorem sum_sound{x:Value}{ds:List D}{ns:List Int}(hh:A.handled=none)(hx:RD C s.heap Y x (.list ds))(hi:ints? ds=some ns)(q:Kq C Y (.int ns.sum) s Q):wpAny C.M A (call (.builtin "sum") [x]) Q NE s:=by
 obtain⟨a,vs,m,rfl,h1,r1⟩:=hx.list_inv
 obtain⟨xs,e1,e2⟩:=ints_items (ints_of r1 hi)
 refine toksOf (sum_intListG (xs:=xs.toArray) hh ?_ fun h' tk t' hk ht=> ?_)
 ·have:=isList_of h1
  rw[e1] at this
  simpa [intItems] using this
 ·have e:preSum (numAt xs.toArray) xs.toArray.size=ns.sum:=by
   rw[preSum_eq];simp[e2]
   rw[←e2,List.take_of_length_le (by simp)]
  rw[e]
  exact q _ _ (KP.of ht hk) (.int _ _)
theorem new2_view{h':Heap}{a:Addr}{o:Obj}(hY:∀a∈Y,a<s.heap.objs.size)(hge:s.heap.objs.size≤a)(e:h'.get? a=some o):view h' Y a=some o:=view_of e fun h=>absurd (hY _ h) (Nat.not_lt.mpr hge)
theorem sorted_sound{x:Value}{ds:List D}{d:D}(hY:∀a∈Y,a<s.heap.objs.size)(hx:RD C s.heap Y x (.list ds))(h:builtinD "sorted" [.list ds]=some d)(q:Kq C Y d s Q):wpAny C.M A (call (.builtin "sorted") [x]) Q NE s:=by
 obtain⟨a,vs,m,rfl,h1,r1⟩:=hx.list_inv
 have l1:=r1.length
 have h:(if ds.length<64 then (match ints? ds,strs? ds with
    |some ns,_=>some (D.list ((sortI ns).map .int))
    |none,some ss=>some (.list ((sortS ss).map .str))
    |_,_=>none) else none)=some d:=h
 split at h
 ·rename_i h64
  split at h
  ·rename_i ns _ hi;cases h
   refine sorted_ints (isList_of h1) (ints_of r1 hi) kO fun out ns' hI hp hs=> ?_
   obtain⟨e,he⟩:=sortedAll_at s.heap vs out
   rw[←sortI_eq hp hs] at q
   refine q _ _ (KP.of nL fun b o hb=>sortedAll_old hb) (.list (vs:=out.toList) (n:=e) ?_ (Rs.ofInts hI))
   exact new2_view hY (Nat.le_succ _) (by rw[he];simp[lstO])
  ·rename_i ss _ hi;cases h
   refine sorted_strs (isList_of h1) (strs_of r1 hi) kO fun out ns' hI hp hs=> ?_
   obtain⟨e,he⟩:=sortedAll_at s.heap vs out
   rw[←sortS_eq hp hs] at q
   refine q _ _ (KP.of nL fun b o hb=>sortedAll_old hb) (.list (vs:=out.toList) (n:=e) ?_ (Rs.ofStrs hI))
   exact new2_view hY (Nat.le_succ _) (by rw[he];simp[lstO])
  ·cases h
 ·cases h
end
theorem maxI_snoc:∀(l:List Int) (a b:Int),maxI a (l++[b])=if b > maxI a l then b else maxI a l
 |[],a,b=>rfl
 |c::r,a,b=>by
  show maxI _ (r++[b])=_
  rw[maxI_snoc r];rfl
theorem best_is(xs:Array (Int×Tok))(a:Int)(r:List Int)(h:xs.toList.map (·.1)=a::r):∀k,k<xs.size→numAt xs (argBest (fun i j=>decide (numAt xs i > numAt xs j)) k)=maxI a (r.take k)∧argBest (fun i j=>decide (numAt xs i > numAt xs j)) k≤k
 |0,hk=>by
  have h0:xs[0]?.map (·.1)=some a:=by
   have:(xs.toList.map (·.1))[0]? =some a:=by rw[h];rfl
   simpa using this
  simp[argBest,numAt,h0,maxI]
 |k+1,hk=>by
  obtain⟨ih,ihl⟩:=best_is xs a r h k kO
  have hk1:numAt xs (k+1)=r.getD k 0:=by
   have:(xs.toList.map (·.1))[k+1]? =r[k]? :=by rw[h];rfl
   have e:xs[k+1]?.map (·.1)=r[k]? :=by simpa using this
   simp[numAt,e]
  have hlen:r.length+1=xs.size:=by
   have:=congrArg List.length h
   simpa using this.symm
  have ht:r.take (k+1)=r.take k++[r.getD k 0]:=by
   rw[List.take_add_one]
   have:k<r.length:=by omega
   simp[this]
  unfold argBest
  rw[ht,maxI_snoc,←ih]
  simp only[decide_eq_true_eq]
  split
  ·rename_i hgt
   rw[hk1] at hgt ⊢
   exact⟨by rw[if_pos hgt],by omega⟩
  ·rename_i hgt
   rw[hk1] at hgt
   exact⟨by rw[if_neg hgt],by omega⟩
section
variable{C:Cx}{n:Nat}{r:Ev}{k:Bool}{A:Around}{env:Env}{Y:List Addr}{l:Loc}{s:Shared}{Q:Value→Shared→Prop}
theorem max_sound{x:Value}{ds:List D}{a:Int}{rs:List Int}(hh:A.handled=none)(hx:RD C s.heap Y x (.list ds))(hi:ints? ds=some (a::rs))(q:Kq C Y (.int (maxI a rs)) s Q):wpAny C.M A (call (.builtin "max") [x]) Q NE s:=by
 obtain⟨ad,vs,m,rfl,h1,r1⟩:=hx.list_inv
 obtain⟨xs,e1,e2⟩:=ints_items (ints_of r1 hi)
 have hlen:xs.length=rs.length+1:=by have:=congrArg List.length e2;simpa using this
 refine toksOf (max_intList (xs:=xs.toArray) hh ?_ (by simp;omega) fun v h' tk hv hk ht=> ?_)
 ·have:=isList_of h1
  rw[e1] at this
  simpa [intItems] using this
 ·obtain⟨b1,b2⟩:=best_is xs.toArray a rs (by simpa using e2) (xs.toArray.size - 1) (by simp;omega)
  rw[List.take_of_length_le (by simp;omega)] at b1
  generalize argBest (fun i j=>decide (numAt xs.toArray i > numAt xs.toArray j)) (xs.toArray.size - 1)=j at b1 b2 hv
  have hj:j<xs.length:=by simp at b2;omega
  have e:v= .int (xs[j]).1 (xs[j]).2:=by
   have:(intItems xs.toArray)[j]? =some (.int (xs[j]).1 (xs[j]).2):=by simp[intItems,hj]
   rw[this] at hv;exact(Option.some.inj hv).symm
  have e3:(xs[j]).1=maxI a rs:=by rw[←b1];simp[numAt,hj]
  rw[e,e3]
  exact q _ _ (KP.of ht hk) (.int _ _)
theorem small_log{i:Int}(h:small i=true):i.natAbs.log2<1920:=by
 have h':i.natAbs<2 ^ 60:=of_decide_eq_true h
 by_cases h0:i.natAbs=0
 ·rw[h0];decide
 ·have:=(Nat.log2_lt h0).mpr h'
  omega
def calleeB(f:Str):Value:=if f="len" then .builtin "len" else if f="sum" then .builtin "sum" else if f="range" then .type "range" else if f="sorted" then .builtin "sorted" else if f="max" then .builtin "max" else if f="str" then .type "str" else if f="int" then .type "int" else .type "list"
theorem builtin_call{f:Str}{ds:List D}{vs:List Value}{d:D}(hh:A.handled=none)(hP:C.P∈Y)(hY:∀a∈Y,a<s.heap.objs.size)(h:builtinD f ds=some d)(hr:RDs C s.heap Y vs ds)(q:Kq C Y d s Q):wpAny C.M A (call (calleeB f) vs) Q NE s:=by
 have hlim:lim=1000000:=rfl
 unfold builtinD at h
 unfold calleeB
 split at h
 ·rename_i hf;rw[if_pos hf]
  split at h
  ·cases hr with
   |cons h1 hr=>cases hr;split at h
                ·cases h
                 obtain⟨a,vs,m,rfl,h1,r1⟩:=h1.list_inv
                 refine call_len_list (isList_of h1) (by have:=r1.length;simp;omega) ?_
                 have:=q (.int vs.toArray.size (s.toks+1)) _ (KP.tok (tk:=s.toks+1+1) kO) (by rw[List.size_toArray,r1.length];exact .int _ _)
                 exact this
                ·cases h
  ·cases hr with
   |cons h1 hr=>cases hr;split at h
                ·cases h
                 obtain⟨a,vs,m,rfl,h1,r1⟩:=h1.tup_inv
                 refine PyProof.Rows.len_tuple (isTuple_of h1) (by have:=r1.length;simp;omega) ?_
                 have:=q (.int vs.toArray.size (s.toks+1)) _ (KP.tok (tk:=s.toks+1+1) kO) (by rw[List.size_toArray,r1.length];exact .int _ _)
                 exact this
                ·cases h
  ·cases hr with
   |cons h1 hr=>cases hr;split at h
                ·cases h
                 obtain⟨t,rfl⟩:=h1.str_inv
                 exact P.len_str kO (q _ _ (KP.tok kO) (.int _ _))
                ·cases h
  ·cases h
 ·rename_i hf;rw[if_neg hf]
  split at h
  ·rename_i hf;rw[if_pos hf]
   split at h
   ·cases hr with
    |cons h1 hr=>
     cases hr
     rename_i ds1 _
     cases hi:ints? ds1 with
     |none=>rw[hi] at h;cases h
     |some ns=>rw[hi] at h;cases h;exact sum_sound hh h1 hi q
   ·cases h
  ·rename_i hf;rw[if_neg hf]
   split at h
   ·rename_i hf;rw[if_pos hf]
    split at h
    ·cases h
     cases hr with
     |cons h1 hr=>
      cases hr
      obtain⟨t,rfl⟩:=h1.int_inv
      refine call_range_1 (q _ _ (KP.push kO) (.rng (t:=s.toks) (u:=t) (v:=s.toks+1) ?_))
      exact new2_view hY nL (Heap.get?_push_size _ rfl)
    ·cases h
     cases hr with
     |cons h1 hr=>
      cases hr with
      |cons h2 hr=>
       cases hr
       obtain⟨t,rfl⟩:=h1.int_inv
       obtain⟨u,rfl⟩:=h2.int_inv
       refine call_range_2 (q _ _ (KP.push kO) (.rng (t:=t) (u:=u) (v:=s.toks) ?_))
       exact new2_view hY nL (Heap.get?_push_size _ rfl)
    ·cases h
   ·rename_i hf;rw[if_neg hf]
    split at h
    ·rename_i hf;rw[if_pos hf]
     split at h
     ·cases hr with
      |cons h1 hr=>
       cases hr
       rename_i ds1
       refine sorted_sound hY h1 (d:=d) ?_ q
       exact h
     ·cases h
    ·rename_i hf;rw[if_neg hf]
     split at h
     ·rename_i hf;rw[if_pos hf]
      split at h
      ·cases hr with
       |cons h1 hr=>
        cases hr
        rename_i ds1 _
        cases hi:ints? ds1 with
        |none=>rw[hi] at h;cases h
        |some ns=>
         rw[hi] at h
         cases ns with
         |nil=>cases h
         |cons a rs=>cases h;exact max_sound hh h1 hi q
      ·cases h
       cases hr with
       |cons h1 hr=>
        cases hr with
        |cons h2 hr=>
         cases hr
         obtain⟨t,rfl⟩:=h1.int_inv
         obtain⟨u,rfl⟩:=h2.int_inv
         refine toksOf (max_two_ints hh fun h' tk hk ht=> ?_)
         split
         ·rename_i hc;rw[if_pos hc] at q;exact q _ _ (KP.of ht hk) (.int _ _)
         ·rename_i hc;rw[if_neg hc] at q;exact q _ _ (KP.of ht hk) (.int _ _)
      ·cases h
     ·rename_i hf;rw[if_neg hf]
      split at h
      ·rename_i hf;rw[if_pos hf]
       split at h
       ·split at h
        ·rename_i hs;cases h
         cases hr with
         |cons h1 hr=>
          cases hr
          obtain⟨t,rfl⟩:=h1.int_inv
          refine P.str_of_int ?_ (q _ _ (KP.tok kO) (.str _ _))
          exact small_log hs
        ·cases h
       ·cases h
      ·rename_i hf;rw[if_neg hf]
       split at h
       ·rename_i hf;rw[if_pos hf]
        split at h
        ·split at h
         ·rename_i x hs
          cases hr with
          |cons h1 hr=>
           cases hr
           obtain⟨t,rfl⟩:=h1.str_inv
           cases hi:PySem.intText? x with
           |none=>rw[hi] at h;cases h
           |some m=>rw[hi] at h;cases h;exact KIN.call_text hi hs (q _ _ (KP.tok kO) (.int _ _))
         ·cases h
        ·cases h
       ·rename_i hf;rw[if_neg hf]
        split at h
        ·split at h
         ·split at h
          ·rename_i hs;cases h
           cases hr with
           |cons h1 hr=>
            cases hr
            obtain⟨a,vs,m,rfl,h1,r1⟩:=h1.list_inv
            refine call_list_seq a (T:="list") (.inl rfl) (view_get h1).1 rfl rfl (fun h' c' hk hn=> ?_) (by simp only[List.size_toArray,r1.length];exact sz hs)
            have kk:KP C s { s with heap:=h' }:=KP.of nL hk
            exact q _ _ kk (.list (vs:=vs) (n:=c') (new2_view hY nL hn) (RDs.kp kk hP r1))
          ·cases h
         ·cases h
        ·cases h
end
section
variable{C:Cx}{n:Nat}{r:Ev}{k:Bool}{A:Around}{env:Env}{Y:List Addr}{l:Loc}{s:Shared}{Q:Value→Shared→Prop}
theorem strs_from{H:HV}:∀(m:Nat) (xs:List Str),Rs C.prog C.w H (strsFrom m xs) (xs.map .str)
 |_,[]=> .nil
 |m,x::r=>by
  show Rs _ _ _ (Value.str x m::strsFrom (m+1) r) _
  exact .cons (.str x m) (strs_from (m+1) r)
theorem strs_items:∀{vs:List Value} {ns:List Str},StrsAre vs ns→∃xs:List (Str×Tok),vs=strValues xs∧xs.map (·.1)=ns
 |_,_,.nil=>⟨[],rfl,rfl⟩
 |_,_,.cons n t r=>by
  obtain⟨xs,h1,h2⟩:=strs_items r
  exact⟨(n,t)::xs,by simp[strValues,h1],by simp[h2]⟩
theorem join_fold(m:Nat):∀(ss:List Str) (acc:Nat),(ss.all (fun s=>decide (s.length≤1000)))=true→ss.foldl (·+·.length+m) acc≤acc+ss.length * (1000+m)
 |[],acc,_=>by simp
 |x::r,acc,h=>by
  simp only[List.all_cons,Bool.and_eq_true,decide_eq_true_eq] at h
  have:=join_fold m r (acc+x.length+m) h.2
  rw[List.foldl_cons,List.length_cons]
  have e:(r.length+1) * (1000+m)=r.length * (1000+m)+(1000+m):=by rw[Nat.add_mul];omega
  omega
def methId(m:Str):String:=if m="find" then "str.find" else if m="split" then "str.split" else if m="join" then "str.join" else "list.index"
theorem meth_call{o d:D}{m:Str}{ds:List D}{ov:Value}{vs:List Value}(p:AOk (n+1) A)(hP:C.P∈Y)(hY:∀a∈Y,a<s.heap.objs.size)(h:methD o m ds=some d)(ho:RD C s.heap Y ov o)(hr:RDs C s.heap Y vs ds)(q:Kq C Y d s Q):wpAny C.M A (call (.builtin (methId m)) (ov::vs)) Q NE s:=by
 have hu:=p.units
 unfold methD at h
 unfold methId
 split at h
 ·rename_i hf;rw[if_pos hf]
  split at h
  ·cases h
   obtain⟨t,rfl⟩:=ho.str_inv
   cases hr with
   |cons h1 hr=>
    cases hr
    obtain⟨u,rfl⟩:=h1.str_inv
    exact SC.find (q _ _ (KP.tok kO) (.int _ _))
  ·cases h
   obtain⟨t,rfl⟩:=ho.str_inv
   cases hr with
   |cons h1 hr=>
    cases hr with
    |cons h2 hr=>
     cases hr
     obtain⟨u,rfl⟩:=h1.str_inv
     obtain⟨v,rfl⟩:=h2.int_inv
     exact call_gives F.slot_str_find (typeIs_str _ _ _) F.entry_str_find (F.args_str_find_3 _ _ _) (gives_str_find_from _ _ _ t u v) (q _ _ (KP.tok kO) (.int _ _))
  ·cases h
 ·rename_i hf;rw[if_neg hf]
  split at h
  ·rename_i hf;rw[if_pos hf]
   split at h
   ·split at h
    ·rename_i hs;cases h
     obtain⟨t,rfl⟩:=ho.str_inv
     cases hr with
     |cons h1 hr=>
      cases hr
      obtain⟨u,rfl⟩:=h1.str_inv
      obtain⟨g1,g2,g3,g4,g5⟩:=hs
      have hz:sizeLine=16777216:=by decide
      refine call_meets F.slot_str_split (typeIs_str _ _ _) F.entry_str_split (F.args_str_split_2 _ _) (meets_str_split_sep _ _ t u g3 (by simp[g1]) g4 kO kO) ?_
      refine q _ _ (KP.push kO) (.list (vs:=strsFrom s.toks _) (n:=0) ?_ (strs_from _ _))
      exact new2_view hY nL (Heap.get?_push_size _ rfl)
    ·cases h
   ·cases h
  ·rename_i hf;rw[if_neg hf]
   split at h
   ·rename_i hf;rw[if_pos hf]
    split at h
    ·split at h
     ·rename_i hs
      rename_i xx ll
      obtain⟨t,rfl⟩:=ho.str_inv
      cases hr with
      |cons h1 hr=>
       cases hr
       cases hi:strs? ll with
       |none=>rw[hi] at h;cases h
       |some ss=>
        rw[hi] at h
        have h:(if ss.all (fun s=>decide (s.length≤1000)) then some (D.str (Txt.join xx ss)) else none)=some d:=h
        split at h
        ·rename_i hall;cases h
         obtain⟨a,vs,m,rfl,h1,r1⟩:=h1.list_inv
         obtain⟨xs,e1,e2⟩:=strs_items (strs_of r1 hi)
         refine toksOf (SC.join (D:=a) (l:=xs) (texts:=ss) ?_ e2 ?_ fun t' k' ht=>q _ _ (KP.tok ht) (.str _ _))
         ·rw[←e1];exact isList_of h1
         ·unfold JoinOk Builtin.Str.tooLong
          have:=join_fold xx.length ss 0 hall
          have e3:ss.length=ll.length:=by
           have:=congrArg List.length e2
           have l1:=r1.length
           rw[e1] at l1
           simp[strValues] at l1 this
           omega
          have hz:sizeLine=16777216:=by decide
          simp only[List.foldl_toArray',Bool.not_eq_true',decide_eq_false_iff_not]
          have:ss.length * (1000+xx.length)≤1000 * 1000:=Nat.mul_le_mul kO kO
          simp
          omega
        ·cases h
     ·cases h
    ·cases h
   ·rename_i hf;rw[if_neg hf]
    split at h
    ·split at h
     ·split at h
      ·rename_i hs
       rename_i ll xd
       cases hr with
       |cons h1 hr=>
        cases hr
        cases hi:ll.findIdx? (fun y=>D.beq y xd) with
        |none=>rw[hi] at h;cases h
        |some j=>
         rw[hi] at h;cases h
         obtain⟨a,ws,m,rfl,h2,r2⟩:=ho.list_inv
         obtain⟨e,he,_,hb⟩:=eqs_of (A:=A.in1) r2 h1 hs.2 (by show A.units+1+21<9800;omega)
         obtain⟨hj,hj1,hj2⟩:=List.findIdx?_eq_some_iff_getElem.mp hi
         have hlen:=r2.length
         have at_:∀i (hi:i<ll.length),e (ws[i]'kO)=D.beq ll[i] xd:=fun i hi=>by
          obtain⟨v,hv,hr⟩:=r2.get (k:=i) (d:=ll[i]) (by simp)
          have:ws[i]'kO=v:=by
           have h3:ws[i]? =some (ws[i]'kO):=by simp
           rw[h3] at hv;exact Option.some.inj hv
          rw[this]
          exact hb v _ (by rw[←this];exact List.getElem_mem _) (List.getElem_mem _) hr
         refine call_meets F.slot_list_index (isList_of h2).typeIs F.entry_list_index (F.args_list_index_2 _ _) (list_indexAt a ws.toArray m none #[] _ e j (by simp;omega) kO (by simpa using (at_ j hj).trans hj1) fun i hi hij=> ?_) ⟨(view_get h2).1,fun y hy=>he y (by simpa using hy),?_⟩
         ·have:=at_ i (by simp at hi;omega)
          have h4:=hj2 i hij
          simp only[Bool.not_eq_true] at h4
          simpa using this.trans h4
         ·exact q _ _ (KP.tok kO) (.int _ _)
      ·cases h
     ·cases h
    ·cases h
end
section
variable{C:Cx}{n:Nat}{r:Ev}{k:Bool}{A:Around}{env:Env}{Y:List Addr}{l:Loc}{s:Shared}
theorem tru_sound{v:Value}{d:D}{b:Bool}{Q:Bool→Shared→Prop}(h0:truD d=some b)(hv0:RD C s.heap Y v d)(q:∀tk,s.toks≤tk→Q b { s with toks:=tk }):wpAny C.M A (truthy v) Q NE s:=by
 have h:truD0 d.flat=some b:=h0
 have hv:=hv0.flat
 clear h0 hv0
 generalize d.flat=d at h hv
 unfold truD0 at h
 split at h
 ·cases h;rw[hv.bool_inv];exact wpAny_truthy_bool (q _ nL)
 ·split at h
  ·rename_i hs;cases h
   obtain⟨a,vs,m,rfl,h1,r1⟩:=hv.list_inv
   have hl:=r1.length
   have hlim:lim=1000000:=rfl
   refine wpAny_truthy_list (isList_of h1) (by simp;omega) ?_
   have:=q (s.toks+1+1) kO
   rename_i ds
   have e:(!vs.toArray.isEmpty)= !ds.isEmpty:=by
    cases vs with
    |nil=>cases ds with
     |nil=>rfl
     |cons=>simp at hl
    |cons=>cases ds with
     |nil=>simp at hl
     |cons=>simp
   rw[e];exact this
  ·cases h
 ·cases h
theorem notMarks{op:CmpOp}{e:Expr}(h:isSetE e=false):behindInMarks op e=false:=by
 cases e <;> first|rfl|(simp[isSetE] at h)
theorem Bt_sound(S:SE C n r)(a1:AOk (n+1) A):∀(m:Nat) {e:Expr} {b:Bool} {s:Shared} {Q:Bool→Shared→Prop},Pre C n k A env Y l s→Bt r k env.scope l m e=some b→
  (∀s',KP C s s'→Pre C n k A env Y l s'→Q b s')→wpAny C.M A (isTrue e env (eval e env)) Q NE s
 |0,e,b,s,Q,p,h,q=>by cases h
 |m+1,e,b,s,Q,p,h,q=>by
  unfold Bt at h
  split at h
  ·rename_i x _
   cases h1:Bt r k env.scope l m x with
   |none=>rw[h1] at h;cases h
   |some c=>
    rw[h1] at h;cases h
    exact isTrue_not (Bt_sound S a1 m p h1 fun s' k' p'=>q s' k' p')
  ·rename_i x y _
   cases h1:Bt r k env.scope l m x with
   |none=>rw[h1] at h;cases h
   |some c=>
    rw[h1] at h
    refine isTrue_and (Bt_sound S a1 m p h1 fun s' k' p'=> ?_)
    cases c with
    |false=>cases h;simp only[Bool.false_eq_true,if_false];exact q s' k' p'
    |true=>
     simp only[if_true]
     have h:Bt r k env.scope l m y=some b:=h
     refine isTrue_and (Bt_sound S a1 m p' h fun s'' k'' p''=> ?_)
     cases b with
     |false=>simp only[Bool.false_eq_true,if_false];exact q s'' (k'.trans k'') p''
     |true=>simp only[if_true];exact isTrue_and_nil (q s'' (k'.trans k'') p'')
  ·rename_i x y _
   cases h1:Bt r k env.scope l m x with
   |none=>rw[h1] at h;cases h
   |some c=>
    rw[h1] at h
    refine isTrue_or (Bt_sound S a1 m p h1 fun s' k' p'=> ?_)
    cases c with
    |true=>cases h;simp only[if_true];exact q s' k' p'
    |false=>
     simp only[Bool.false_eq_true,if_false]
     have h:Bt r k env.scope l m y=some b:=h
     refine isTrue_or (Bt_sound S a1 m p' h fun s'' k'' p''=> ?_)
     cases b with
     |true=>simp only[if_true];exact q s'' (k'.trans k'') p''
     |false=>simp only[Bool.false_eq_true,if_false];exact isTrue_or_nil (q s'' (k'.trans k'') p'')
  ·rename_i x op y _
   split at h
   ·cases h
   ·rename_i hset
    cases h1:r.E k env.scope l x with
    |none=>rw[h1] at h;cases h
    |some a=>
     rw[h1] at h
     cases h2:r.E k env.scope l y with
     |none=>simp[h2] at h
     |some c=>
      simp[h2] at h
      refine wpAny_isTrue_Compare1 (S.at p h1 fun v1 s₁ k₁ p₁ r₁=>S.at p₁ h2 fun v2 s₂ k₂ p₂ r₂=>cmp_sound a1 h (r₁.kp k₂ p.hP) r₂ fun tk ht=>wpAny_truthy_bool ?_) (notMarks (by simpa using hset))
      have kk:KP C s₂ { s₂ with toks:=tk }:=KP.tok ht
      exact q _ ((k₁.trans k₂).trans kk) (p₂.kp kk)
  ·rename_i x pp
   cases h1:r.E k env.scope l (.Name x pp) with
   |none=>rw[h1] at h;cases h
   |some d=>
    rw[h1] at h
    refine isTrue_plain (S.at p h1 fun v s₁ k₁ p₁ r₁=>tru_sound h r₁ fun tk ht=> ?_)
    have kk:KP C s₁ { s₁ with toks:=tk }:=KP.tok ht
    exact q _ (k₁.trans kk) (p₁.kp kk)
  ·rename_i f as ks pp
   cases h1:r.E k env.scope l (.Call f as ks pp) with
   |none=>rw[h1] at h;cases h
   |some d=>
    rw[h1] at h
    refine isTrue_plain (S.at p h1 fun v s₁ k₁ p₁ r₁=>tru_sound h r₁ fun tk ht=> ?_)
    have kk:KP C s₁ { s₁ with toks:=tk }:=KP.tok ht
    exact q _ (k₁.trans kk) (p₁.kp kk)
  ·cases h
end
section
variable{C:Cx}{n:Nat}{r:Ev}{k:Bool}{A:Around}{env:Env}{Y:List Addr}{l:Loc}{s:Shared}
theorem Frm.ne{env:Env}{h:Heap}(f:Frm env h){p:Str×Addr}(hp:p∈env.cells):p.2≠env.locals:=by
 intro e
 obtain⟨v,o,ho,hd⟩:=f.cl p hp
 obtain⟨m,o',es,ep,ho',hd',_⟩:=f.ns
 rw[e] at ho
 rw[ho] at ho'
 cases ho'
 rw[hd] at hd';cases hd'
theorem store_sound{x:Str}{v:Value}{Q:Unit→Shared→Prop}(kind:env.scope.kind= .function)(cells:∀n,env.kindOf n=some .cell∨env.kindOf n=some .free→(env.cells.lookup n).isSome=true)(fm:Frm env s.heap)(hk:env.kindOf x=some .local∨env.kindOf x=some .cell)
  (hQ:∀h' tk a,s.toks≤tk→(a=env.locals∨(env.kindOf x=some .cell∧env.cells.lookup x=some a))→Heap.SameBut a s.heap h'→Frm env h'→VarAt env h' x v→(∀y u,y≠x→VarAt env s.heap y u→VarAt env h' y u)→Q () { s with heap:=h',toks:=tk }):
  wpAny C.M A (storeName env x v) Q NE s:=by
 rcases hk with hk|hk
 ·obtain⟨m,hn⟩:=fm.ns
  refine wpAny_storeName_local hk hn (fun h' hn' hs=> ?_) (by rw[kind];rfl)
  refine hQ h' _ env.locals (Nat.le_succ _) (.inl rfl) hs ⟨⟨_,hn'⟩,fun p hp=> ?_,fm.apart⟩ (.inl ⟨hk,_,hn',by simp⟩) ?_
  ·obtain⟨u,hu⟩:=fm.cl p hp
   exact⟨u,hu.sameBut hs (fm.ne hp)⟩
  ·intro y u hy hv
   rcases hv with ⟨hky,m2,hn2,hm2⟩|⟨hky,c,hc,hv⟩
   ·refine .inl ⟨hky,_,hn',?_⟩
    rw[if_neg hy,hn.agree hn2];exact hm2
   ·exact .inr ⟨hky,c,hc,hv.sameBut hs (fm.ne (mem_of_lookup hc))⟩
 ·obtain⟨c,hc⟩:=Option.isSome_iff_exists.mp (cells x (.inl hk))
  have hmem:=mem_of_lookup hc
  obtain⟨v0,hv0⟩:=fm.cl _ hmem
  refine wpAny_storeName_cell kind hk hc hv0 fun h' hv' hs=> ?_
  refine hQ h' s.toks c nL (.inr ⟨hk,hc⟩) hs ⟨?_,fun p hp=> ?_,fm.apart⟩ (.inr ⟨.inl hk,c,hc,hv'⟩) ?_
  ·obtain⟨m,hn⟩:=fm.ns
   exact⟨m,hn.sameBut hs (fun e=>fm.ne hmem e.symm)⟩
  ·by_cases e:p.2=c
   ·rw[e];exact⟨_,hv'⟩
   ·obtain⟨u,hu⟩:=fm.cl p hp
    exact⟨u,hu.sameBut hs e⟩
  ·intro y u hy hv
   rcases hv with ⟨hky,m2,hn2,hm2⟩|⟨hky,c2,hc2,hv2⟩
   ·exact .inl ⟨hky,m2,hn2.sameBut hs (fun e=>by
     obtain⟨o,es,ep,ho,hd,_⟩:=hn2
     obtain⟨o',ho',hd'⟩:=hv0
     rw[e] at ho
     rw[ho] at ho';cases ho';rw[hd] at hd';cases hd'),hm2⟩
   ·refine .inr ⟨hky,c2,hc2,hv2.sameBut hs fun e=> ?_⟩
    subst e
    exact hy (name_of_addr fm.apart (mem_of_lookup hc2) hmem)
theorem cells_wf:∀(names:List (Str×NameKind)) (h:Heap) (acc:List (Str×Addr)),(∀p∈acc,∃v,h.IsCell p.2 v)→(acc.Pairwise fun x y=>x.2≠y.2)→
  (∀p∈cellsFrom h.objs.size names acc,∃v,(pushCells h names).IsCell p.2 v)∧((cellsFrom h.objs.size names acc).Pairwise fun x y=>x.2≠y.2)∧(∀p∈cellsFrom h.objs.size names acc,p∈acc∨h.objs.size≤p.2)
 |[],h,acc,h1,h2=>⟨h1,h2,fun p hp=> .inl hp⟩
 |(name,kind)::rs,h,acc,h1,h2=>by
  unfold pushCells cellsFrom
  split
  ·have:=cells_wf rs (h.push { cls:= .type "cell",data:= .cell none }) ((name,h.objs.size)::acc)
    (fun p hp=>by
     rcases zcon.mp hp with rfl|hp
     ·exact⟨_,_,Heap.get?_push_size _ rfl,rfl⟩
     ·obtain⟨v,hv⟩:=h1 p hp
      exact⟨v,hv.keeps fun b o e=>zpO _ e⟩)
    (List.pairwise_cons.mpr ⟨fun y hy e=>by
     obtain⟨v,hv⟩:=h1 y hy
     have e':h.objs.size=y.2:=e
     exact Nat.lt_irrefl _ (e'▸hv.lt),h2⟩)
   rw[Heap.size_push] at this
   refine⟨this.1,this.2.1,fun p hp=> ?_⟩
   rcases this.2.2 p hp with h|h
   ·rcases zcon.mp h with rfl|h
    ·exact .inr nL
    ·exact .inl h
   ·exact .inr kO
  ·exact cells_wf rs h acc h1 h2
theorem cells_isSome:∀(names:List (Str×NameKind)) (m:Nat) (acc:List (Str×Addr)) (x:Str),(names.lookup x=some .cell∨(acc.lookup x).isSome=true)→((cellsFrom m names acc).lookup x).isSome=true
 |[],m,acc,x,h=>by rcases h with h|h;cases h;exact h
 |(name,kind)::rs,m,acc,x,h=>by
  unfold cellsFrom
  split
  ·rename_i hk
   refine cells_isSome rs (m+1) _ x ?_
   by_cases e:x=name
   ·subst e;right;simp
   ·have e':(x==name)=false:=by simpa using e
    rcases h with h|h
    ·left;rw[List.lookup_cons,e'] at h;exact h
    ·right;rw[List.lookup_cons,e'];exact h
  ·rename_i hk
   refine cells_isSome rs m acc x ?_
   by_cases e:x=name
   ·subst e
    rcases h with h|h
    ·simp only[List.lookup_cons,beq_self_eq_true,Option.some.injEq] at h
     rw[h] at hk;exact absurd rfl hk
    ·exact .inr h
   ·have e':(x==name)=false:=by simpa using e
    rcases h with h|h
    ·left;rw[List.lookup_cons,e'] at h;exact h
    ·exact .inr h
theorem cells_lookup:∀(names:List (Str×NameKind)) (m:Nat) (acc:List (Str×Addr)) (x:Str),(∀q∈names,q.1=x→q.2≠.cell)→(cellsFrom m names acc).lookup x=acc.lookup x
 |[],m,acc,x,h=>rfl
 |(name,kind)::rs,m,acc,x,h=>by
  unfold cellsFrom
  split
  ·rename_i hk
   have hne:x≠name:=fun e=>h (name,kind) zmS e.symm (by simpa using hk)
   rw[cells_lookup rs (m+1) _ x fun q hq=>h q (zmC _ hq),List.lookup_cons]
   have e':(x==name)=false:=by simpa using hne
   rw[e']
  ·exact cells_lookup rs m acc x fun q hq=>h q (zmC _ hq)
end
section
variable{C:Cx}{n:Nat}{r:Ev}{k:Bool}{A:Around}{env:Env}{Y:List Addr}{l:Loc}{s:Shared}
theorem cells_own:∀(names:List (Str×NameKind)) (m:Nat) (acc:List (Str×Addr)) (x:Str),(∃q∈names,q.1=x∧q.2= .cell)→∃c,m≤c∧(cellsFrom m names acc).lookup x=some c
 |[],m,acc,x,h=>by obtain⟨q,hq,_⟩:=h;cases hq
 |(name,kind)::rs,m,acc,x,h=>by
  unfold cellsFrom
  by_cases hr:∃q∈rs,q.1=x∧q.2= .cell
  ·split
   ·obtain⟨c,h1,h2⟩:=cells_own rs (m+1) ((name,m)::acc) x hr
    exact⟨c,by omega,h2⟩
   ·exact cells_own rs m acc x hr
  ·obtain⟨q,hq,h1,h2⟩:=h
   rcases zcon.mp hq with rfl|hq
   ·simp only at h1 h2
    subst h1 h2
    simp only[beq_self_eq_true,if_true]
    refine⟨m,Nat.le_refl _,?_⟩
    rw[cells_lookup rs (m+1) _ name fun q hq h1 h2=>hr ⟨q,hq,h1,h2⟩]
    simp
   ·exact absurd ⟨q,hq,h1,h2⟩ hr
theorem mem_of_lookup_kind:∀{l:List (Str×NameKind)} {x:Str} {kd:NameKind},l.lookup x=some kd→∃q∈l,q.1=x∧q.2=kd
 |(a,b)::rs,x,kd,h=>by
  rw[List.lookup_cons] at h
  cases hb:x==a with
  |true=>rw[hb] at h;cases h;exact⟨_,zmS,(beq_iff_eq.mp hb).symm,rfl⟩
  |false=>rw[hb] at h;obtain⟨q,hq,h1⟩:=mem_of_lookup_kind h;exact⟨q,zmC _ hq,h1⟩
theorem binds_sound{env:Env}(N:Nat)(f:Str×Value→PUnit→Sem (ForInStep PUnit))(hf:∀x v u,f (x,v) u=(do storeName env x v;pure (.yield ⟨⟩)))
  (kind:env.scope.kind= .function) (cells:∀n,env.kindOf n=some .cell∨env.kindOf n=some .free→(env.cells.lookup n).isSome=true)
  (hN:N≤env.locals) (hNc:∀x c,env.kindOf x=some .cell→env.cells.lookup x=some c→N≤c):
  ∀(binds:List (Str×Value)) (s:Shared) (dn:Str→Option Value) (Q:PUnit→Shared→Prop),Frm env s.heap→(∀x∈binds,env.kindOf x.1=some .local∨env.kindOf x.1=some .cell)→(∀x v,dn x=some v→VarAt env s.heap x v)→
   (∀h' tk,s.toks≤tk→(∀b o,b<N→s.heap.get? b=some o→h'.get? b=some o)→Frm env h'→(∀x v,(binds.reverse.lookup x).or (dn x)=some v→VarAt env h' x v)→Q ⟨⟩ { s with heap:=h',toks:=tk })→
   wpAny C.M A (forIn binds ⟨⟩ f) Q NE s
 |[],s,dn,Q,fm,_,hd,hQ=>by
  rw[List.forIn_nil]
  exact wpAny_pure (hQ s.heap s.toks nL (fun _ _ _ e=>e) fm fun x v h=>hd x v (by simpa using h))
 |(x,v)::rs,s,dn,Q,fm,hb,hd,hQ=>by
  rw[List.forIn_cons,hf]
  refine wpAny_bind (wpAny_bind (store_sound kind cells fm (hb _ zmS) fun h' tk a ht ha hs fm' hv hk=>wpAny_pure ?_))
  refine binds_sound N f hf kind cells hN hNc rs { s with heap:=h',toks:=tk } (fun y=>if y=x then some v else dn y) Q fm' (fun y hy=>hb y (zmC _ hy)) (fun y u h=> ?_) (fun h'' tk' ht' hkeep fm'' hv'=> ?_)
  ·by_cases e:y=x
   ·subst e;simp at h;subst h;exact hv
   ·rw[if_neg e] at h;exact hk y u e (hd y u h)
  ·refine hQ h'' tk' (znT ht ht') (fun b o hb' e=>hkeep b o hb' (hs.extBut b o ?_ e)) fm'' fun y u h=>hv' y u ?_
   ·rcases ha with ha|⟨hk1,hk2⟩
    ·exact fun e=>absurd hb' (Nat.not_lt.mpr (by rw[e,ha];exact hN))
    ·exact fun e=>absurd hb' (Nat.not_lt.mpr (by rw[e];exact hNc x a hk1 hk2))
   ·rw[List.reverse_cons,List.lookup_append] at h
    by_cases e:y=x
    ·subst e
     cases h1:rs.reverse.lookup y with
     |some w=>rw[h1] at h;simpa using h
     |none=>rw[h1] at h;simpa using h
    ·have e':(y==x)=false:=by simpa using e
     cases h1:rs.reverse.lookup y with
     |some w=>rw[h1] at h;simpa using h
     |none=>rw[h1] at h;simpa [List.lookup_cons,e',e] using h
theorem newEnv_sound{scope:Scope}{globals:Addr}{closure:List (Str×Addr)}{binds:List (Str×Value)}{qual:Str}{func:Option Addr}{code:Value}{around:Option Env}{builtins:Addr}{Q:Env→Shared→Prop}
  (kind:scope.kind= .function) (hb:∀x∈binds,scope.names.lookup x.1=some .local∨scope.names.lookup x.1=some .cell)
  (hfree:∀x,scope.names.lookup x=some .free→(closure.lookup x).isSome=true)
  (hcl:∀p∈closure,∃v,s.heap.IsCell p.2 v) (hap:closure.Pairwise fun x y=>x.2≠y.2)
  (hQ:∀env h' tk,env=newEnv scope s.heap.objs.size globals (cellsFrom (s.heap.objs.size+1) scope.names closure) qual func code around builtins→s.toks≤tk→(∀b o,s.heap.get? b=some o→h'.get? b=some o)→Frm env h'→
   (∀x v,binds.reverse.lookup x=some v→VarAt env h' x v)→Q env { s with heap:=h',toks:=tk }):
  wpAny C.M A (newFunctionEnv scope globals closure binds qual func code around builtins) Q NE s:=by
 have main:∀(cls:Value) (env:Env),env=newEnv scope s.heap.objs.size globals (cellsFrom (s.heap.objs.size+1) scope.names closure) qual func code around builtins→
   env.scope=scope→env.locals=s.heap.objs.size→env.cells=cellsFrom (s.heap.objs.size+1) scope.names closure→
   ∀f:Str×Value→PUnit→Sem (ForInStep PUnit),(∀x v u,f (x,v) u=(do storeName env x v;pure (.yield ⟨⟩)))→
   wpAny C.M A (forIn binds ⟨⟩ f) (fun _ s'=>wpAny C.M A (pure env) Q NE s') NE { s with heap:=pushCells (s.heap.push { cls:=cls,data:= .dict #[] }) scope.names }:=by
  intro cls env he hsc hl hc f hf
  have hsz:(s.heap.push { cls:=cls,data:= .dict #[] }).objs.size=s.heap.objs.size+1:=Heap.size_push ..
  have wf:=cells_wf scope.names (s.heap.push { cls:=cls,data:= .dict #[] }) closure (fun p hp=>by
   obtain⟨v,hv⟩:=hcl p hp
   exact⟨v,hv.keeps fun b o e=>zpO _ e⟩) hap
  rw[hsz] at wf
  refine binds_sound s.heap.objs.size f hf (by rw[hsc];exact kind) ?_ (by rw[hl];exact Nat.le_refl _) ?_ binds _ (fun _=>none) _ ⟨?_,?_,?_⟩ ?_ (fun x v h=>by cases h) ?_
  ·intro x hx
   rw[hc]
   refine cells_isSome _ _ _ _ ?_
   rcases hx with hx|hx
   ·left;rw[←hsc];exact hx
   ·right;exact hfree x (by rw[←hsc];exact hx)
  ·intro x c hx h
   rw[hc] at h
   obtain⟨c',h1,h2⟩:=cells_own scope.names (s.heap.objs.size+1) closure x (mem_of_lookup_kind (by rw[←hsc];exact hx))
   rw[h2] at h;cases h;omega
  ·rw[hl]
   exact⟨_,(Heap.Ns.new s.heap cls).keeps fun b o e=>pushCells_keeps _ _ b o e⟩
  ·rw[hc];exact wf.1
  ·rw[hc];exact wf.2.1
  ·intro x hx
   have:=hb x hx
   show env.scope.names.lookup x.1=_∨env.scope.names.lookup x.1=_
   rw[hsc];exact this
  ·intro h' tk ht hk fm hv
   exact wpAny_pure (hQ env h' tk he ht (fun b o e=>hk b o (Heap.lt_size e) (pushCells_keeps _ _ b o (zpO _ e))) fm fun x v h=>hv x v (by simpa using h))
 cases around with
 |none=>
  simp only[newFunctionEnv,Option.isSome_none,Bool.false_eq_true,if_false]
  refine wpAny_bind (wpAny_alloc (wpAny_bind (wpAny_layCells _ (fun _ _ _=>rfl) _ _ _ _ (wpAny_bind ?_))))
  rw[show ({ s with heap:=s.heap.push { cls:= .type "frame",data:= .dict #[] } }:Shared).heap.objs.size=s.heap.objs.size+1 from Heap.size_push ..]
  exact main (.type "frame") _ rfl rfl rfl rfl _ fun _ _ _=>rfl
 |some outer=>
  simp only[newFunctionEnv,Option.isSome_some,if_true]
  refine wpAny_bind (wpAny_alloc (wpAny_bind (wpAny_layCells _ (fun _ _ _=>rfl) _ _ _ _ (wpAny_bind ?_))))
  rw[show ({ s with heap:=s.heap.push { cls:= .type "dict",data:= .dict #[] } }:Shared).heap.objs.size=s.heap.objs.size+1 from Heap.size_push ..]
  exact main (.type "dict") _ rfl rfl rfl rfl _ fun _ _ _=>rfl
end
theorem ne{α:Type}{M:Model}{A:Around}{t:Sem α}{Q:α→Shared→Prop}{E:Value→Shared→Prop}{s:Shared}(h:wpAny M A t Q NE s):wpAny M A t Q E s:=wpAny_mono h (fun _ _ x=>x) fun _ _ x=>x.elim
def ItR(C:Cx)(A:Around)(Y:List Addr)(I:Addr)(ds:List D)(h:Heap):Prop:=
 ∃fp n P St i,Walks C.prog C.w A I fp [I] n P St∧St i h∧i+ds.length=n∧((∀b∈fp,b=I∨b∉Y)∧∀b∈fp,∃o,h.get? b=some o)∧(∀j h,St j h→∃o,h.get? I=some o∧(o.cls= .type "list_iterator"∨o.cls= .type "tuple_iterator"∨o.cls= .type "range_iterator"))∧∀j v,P (i+j) v→∀d,ds[j]? =some d→RD C h Y v d
section
variable{C:Cx}{n:Nat}{r:Ev}{k:Bool}{A:Around}{env:Env}{Y:List Addr}{l:Loc}{s:Shared}{I:Addr}{ds:List D}
theorem view_keep{h h':Heap}{Y:List Addr}(hk:∀b o,b∉Y→h.get? b=some o→h'.get? b=some o):∀a o,view h Y a=some o→view h' Y a=some o:=fun a o e=>by
 obtain⟨e,n⟩:=view_get e
 exact view_of (hk a o n e) n
theorem ItR.obj{h:Heap}(x:ItR C A Y I ds h):∃o,h.get? I=some o∧(o.cls= .type "list_iterator"∨o.cls= .type "tuple_iterator"∨o.cls= .type "range_iterator"):=by
 obtain⟨fp,m,P,St,i,W,st,hl,hfp,ho,hP⟩:=x
 exact ho i h st
theorem view_more{h h':Heap}{Y Z:List Addr}(hk:∀b o,b∉Y→h.get? b=some o→h'.get? b=some o)(hn:∀b∈Z,h.get? b=none):∀a o,view h Y a=some o→view h' (Z++Y) a=some o:=fun a o e=>by
 obtain⟨e,n⟩:=view_get e
 refine view_of (hk a o n e) fun hm=> ?_
 rcases zapp.mp hm with hm|hm
 ·rw[hn a hm] at e;cases e
 ·exact n hm
theorem ItR.keep{h h':Heap}(x:ItR C A Y I ds h)(hI:∀o,h.get? I=some o→h'.get? I=some o)(hk:∀b o,b∉Y→h.get? b=some o→h'.get? b=some o):ItR C A Y I ds h':=by
 obtain⟨fp,m,P,St,i,W,st,hl,hfp,ho,hP⟩:=x
 have hkeep:∀b∈fp,∀o,h.get? b=some o→h'.get? b=some o:=fun b hb o e=>by
  rcases hfp.1 b hb with rfl|hb
  ·exact hI o e
  ·exact hk b o hb e
 exact⟨fp,m,P,St,i,W,W.frame i h h' st hkeep,hl,⟨hfp.1,fun b hb=>let ⟨o,e⟩:=hfp.2 b hb;⟨o,hkeep b hb o e⟩⟩,ho,fun j v hv d hd=>R.mono (view_keep hk) (hP j v hv d hd)⟩
theorem ItR.more{h h':Heap}{Z:List Addr}(x:ItR C A Y I ds h)(hZ:∀b∈Z,h.get? b=none)(hk:∀b o,h.get? b=some o→h'.get? b=some o):ItR C A (Z++Y) I ds h':=by
 obtain⟨fp,m,P,St,i,W,st,hl,hfp,ho,hP⟩:=x
 refine⟨fp,m,P,St,i,W,W.frame i h h' st fun b _ o e=>hk b o e,hl,⟨fun b hb=> ?_,fun b hb=>let ⟨o,e⟩:=hfp.2 b hb;⟨o,hk b o e⟩⟩,ho,fun j v hv d hd=>R.mono (view_more (fun b o _ e=>hk b o e) hZ) (hP j v hv d hd)⟩
 rcases hfp.1 b hb with e|e
 ·exact .inl e
 ·refine .inr fun hm=> ?_
  rcases zapp.mp hm with hm|hm
  ·obtain⟨o,ho⟩:=hfp.2 b hb
   rw[hZ b hm] at ho;cases ho
  ·exact e hm
theorem ItR.perm{h:Heap}{Y':List Addr}(x:ItR C A Y I ds h)(hY:∀b,b∈Y'↔b∈Y):ItR C A Y' I ds h:=by
 obtain⟨fp,m,P,St,i,W,st,hl,hfp,ho,hP⟩:=x
 refine⟨fp,m,P,St,i,W,st,hl,⟨fun b hb=> ?_,hfp.2⟩,ho,fun j v hv d hd=>R.mono (fun a o e=> ?_) (hP j v hv d hd)⟩
 ·rcases hfp.1 b hb with e|e
  ·exact .inl e
  ·exact .inr fun hm=>e ((hY b).mp hm)
 ·obtain⟨e,nn⟩:=view_get e
  exact view_of e fun hm=>nn ((hY a).mp hm)
theorem next_nil{Q:Option Value→Shared→Prop}(x:ItR C A Y I [] s.heap)(q:∀h' tk,s.toks≤tk→(∀b o,b≠I→s.heap.get? b=some o→h'.get? b=some o)→Q none { s with heap:=h',toks:=tk }):wpAny C.M A (pyNext (.ref I)) Q NE s:=by
 obtain⟨fp,m,P,St,i,W,st,hl,hfp,ho,hP⟩:=x
 have e:i=m:=by simpa using hl
 subst e
 exact toksOf (W.done s _ _ st fun h' tk hk ht=>q h' tk ht fun b o hb e=>hk b o (by simpa using hb) e)
theorem next_cons{d:D}{Q:Option Value→Shared→Prop}(hI:I∈Y)(x:ItR C A Y I (d::ds) s.heap)(q:∀v h' tk,s.toks≤tk→(∀b o,b≠I→s.heap.get? b=some o→h'.get? b=some o)→ItR C A Y I ds h'→RD C h' Y v d→Q (some v) { s with heap:=h',toks:=tk }):wpAny C.M A (pyNext (.ref I)) Q NE s:=by
 obtain⟨fp,m,P,St,i,W,st,hl,hfp,ho,hP⟩:=x
 simp only[List.length_cons] at hl
 refine toksOf (W.item i s _ _ kO st fun v h' tk hv st' hk ht=> ?_)
 have hk':∀b o,b≠I→s.heap.get? b=some o→h'.get? b=some o:=fun b o hb e=>hk b o (by simpa using hb) e
 have hm:=view_keep (h:=s.heap) (h':=h') (Y:=Y) fun b o hb e=>hk' b o (fun e'=>hb (e'▸hI)) e
 exact q v h' tk ht hk' ⟨fp,m,P,St,i+1,W,st',by omega,⟨hfp.1,fun b hb=>(by by_cases e:b=I;exact(ho (i+1) h' st').elim fun o h=>⟨o,e▸h.1⟩;exact(hfp.2 b hb).elim fun o h=>⟨o,hk' b o e h⟩)⟩,ho,fun j u hu d' hd'=>R.mono hm (hP (j+1) u (by rw[show i+(j+1)=i+1+j by omega];exact hu) d' (by simpa using hd'))⟩ (R.mono hm (hP 0 v (by simpa using hv) d rfl))
theorem self_sound{Q:Value→Shared→Prop}(x:ItR C A Y I ds s.heap)(q:Q (.ref I) s):wpAny C.M A (pyIter (.ref I)) Q NE s:=by
 obtain⟨fp,m,P,St,i,W,st,hl,hfp,ho,hP⟩:=x
 exact W.self i s _ _ st q
theorem iter_sound{v:Value}{d:D}{Q:Value→Shared→Prop}(hh:A.handled=none)(hY:∀a∈Y,a<s.heap.objs.size)(hv:RD C s.heap Y v d)(h:iterD d=some ds)
  (q:∀h',(∀b o,s.heap.get? b=some o→h'.get? b=some o)→ItR C A (s.heap.objs.size::Y) s.heap.objs.size ds h'→Q (.ref s.heap.objs.size) { s with heap:=h' }):wpAny C.M A (pyIter v) Q NE s:=by
 have hnew:∀o:Obj,∀b∈[s.heap.objs.size],s.heap.get? b=none:=fun o b hb=>by
  simp at hb;subst hb
  cases e:s.heap.get? s.heap.objs.size with
  |none=>rfl
  |some o=>exact absurd (Heap.lt_size e) (Nat.lt_irrefl _)
 unfold iterD at h
 split at h
 ·cases h
  obtain⟨a,vs,m,rfl,h1,r1⟩:=hv.list_inv
  have hlt:=Heap.lt_size (view_get h1).1
  refine wpAny_pyIter_list (isList_of h1) (q _ (fun b o e=>zpO _ e) ?_)
  refine⟨_,_,_,_,0,Walks.list hh s.heap.objs.size a (Nat.ne_of_lt hlt) vs.toArray,⟨⟨_,Heap.get?_push_size _ rfl,rfl,rfl⟩,(isList_of h1).push _⟩,by simp[r1.length],?_,?_,?_⟩
  ·refine⟨?_,fun b hb=> ?_⟩
   ·intro b hb
    simp at hb
    rcases hb with rfl|rfl
    ·exact .inl rfl
    ·refine .inr fun hm=> ?_
     rcases zcon.mp hm with e|hm
     ·exact Nat.lt_irrefl _ (e▸hlt)
     ·exact(view_get h1).2 hm
   ·simp at hb
    rcases hb with rfl|rfl
    ·exact⟨_,Heap.get?_push_size _ rfl⟩
    ·exact⟨_,zpO _ (view_get h1).1⟩
  ·rintro j h ⟨⟨o,ho,hc,_⟩,_⟩;exact⟨o,ho,.inl hc⟩
  ·intro j v hv d hd
   have hv:vs[j]? =some v:=by simpa using hv
   obtain⟨d',hd',hr⟩:=r1.getV hv
   rw[hd] at hd';cases hd'
   exact R.mono (view_more (Z:=[s.heap.objs.size]) (fun b o _ e=>zpO _ e) (hnew (lstO [] 0))) hr
 ·cases h
  obtain⟨a,vs,m,rfl,h1,r1⟩:=hv.tup_inv
  have hlt:=Heap.lt_size (view_get h1).1
  refine wpAny_pyIter_tuple (isTuple_of h1) (q _ (fun b o e=>zpO _ e) ?_)
  refine⟨_,_,_,_,0,Walks.tuple hh s.heap.objs.size a (Nat.ne_of_lt hlt) vs.toArray,⟨⟨_,Heap.get?_push_size _ rfl,rfl,rfl⟩,(isTuple_of h1).push _⟩,by simp[r1.length],?_,?_,?_⟩
  ·refine⟨?_,fun b hb=> ?_⟩
   ·intro b hb
    simp at hb
    rcases hb with rfl|rfl
    ·exact .inl rfl
    ·refine .inr fun hm=> ?_
     rcases zcon.mp hm with e|hm
     ·exact Nat.lt_irrefl _ (e▸hlt)
     ·exact(view_get h1).2 hm
   ·simp at hb
    rcases hb with rfl|rfl
    ·exact⟨_,Heap.get?_push_size _ rfl⟩
    ·exact⟨_,zpO _ (view_get h1).1⟩
  ·rintro j h ⟨⟨o,ho,hc,_⟩,_⟩;exact⟨o,ho,.inr (.inl hc)⟩
  ·intro j v hv d hd
   have hv:vs[j]? =some v:=by simpa using hv
   obtain⟨d',hd',hr⟩:=r1.getV hv
   rw[hd] at hd';cases hd'
   exact R.mono (view_more (Z:=[s.heap.objs.size]) (fun b o _ e=>zpO _ e) (hnew (lstO [] 0))) hr
 ·split at h
  ·rename_i a b hs;cases h
   simp only[Bool.and_eq_true,decide_eq_true_eq] at hs
   have ha:a.natAbs<2 ^ 60:=of_decide_eq_true hs.1.1
   have hb:b.natAbs<2 ^ 60:=of_decide_eq_true hs.1.2
   obtain⟨rr,t,u,z,rfl,h1⟩:=hv.rng_inv
   have hsize:Builtin.Range.rangeSize a b 1=((b - a).toNat:Int):=by
    unfold Builtin.Range.rangeSize;simp;split <;> omega
   refine wpAny_pyIter_range (view_get h1).1 (small_one kO kO kO kO) (q _ (fun b o e=>zpO _ e) ?_)
   ·refine⟨_,_,_,_,0,Walks.range hh s.heap.objs.size a 1 (b - a).toNat,?_,by simp,?_,?_,?_⟩
    ·rw[hsize]
     simp
     exact Heap.get?_push_size _ rfl
    ·refine⟨?_,fun b hb=> ?_⟩
     ·intro b hb
      simp at hb
      exact .inl hb
     ·simp at hb
      subst hb
      exact⟨_,Heap.get?_push_size _ rfl⟩
    ·intro j h ho;exact⟨_,ho,.inr (.inr rfl)⟩
    ·intro j v hv d hd
     obtain⟨t,rfl⟩:=hv
     simp only[List.getElem?_map] at hd
     cases hj:(List.range (b - a).toNat)[j]? with
     |none=>rw[hj] at hd;cases hd
     |some i=>
      rw[hj] at hd;cases hd
      have:i=j:=by
       obtain⟨h1,h2⟩:=List.getElem?_eq_some_iff.mp hj
       simpa using h2.symm
      subst this
      simp
      exact .int _ _
  ·cases h
 ·cases h
end
def innerT(e:Expr)(depth:Nat)(acc:Value)(env:Env)(emit:Sem Unit):Option Comprehension→Sem Unit
 |some g'=>do
  let x←eval g'.iter env
  standAt g'.iter.pos
  let x←foldedSetIterable g'.iter env x
  let _←runOwn (.compStart e (depth+1) (←holding [x] (pyIter x)) acc env) env
 |none=>emit
def turnT(e:Expr)(gens:List Comprehension)(depth:Nat)(g:Comprehension)(it acc:Value)(env:Env)(emit:Sem Unit):Sem Fin:=do
 standAt g.iter.pos
 match←pyNext it with
 |none=>pure (.done .next)
 |some v=>
  letOwnedTupleGo g.target it v
  assign g.target env v
  let mut ok:=true
  for c in g.ifs do
   if ok then ok←isTrue c env (eval c env)
  if ok then innerT e depth acc env emit gens[depth+1]?
  again (.compLoop e depth it acc env)
theorem turn_list{elt:Expr}{gens:List Comprehension}{csc:Scope}{pos:Pos}{depth:Nat}{g:Comprehension}{it acc:Value}{env:Env}(hd:gens[depth]? =some g)(ha:∀g∈gens,g.is_async=0):
  compTurn (.ListComp elt gens csc pos) depth it acc env=turnT (.ListComp elt gens csc pos) gens depth g it acc env (do let _←call (.builtin "list.append") [acc,←eval elt env]):=by
 have h0:g.is_async=0:=ha g (List.mem_of_getElem? hd)
 unfold compTurn turnT
 simp only[hd,h0]
 cases h1:gens[depth+1]? with
 |none=>rfl
 |some g'=>
  have h2:g'.is_async=0:=ha g' (List.mem_of_getElem? h1)
  simp only[h2,innerT,bne_self_eq_false,Bool.false_eq_true,if_false,bind_assoc,pure_bind]
  rfl
theorem turn_dict{ke ve:Expr}{gens:List Comprehension}{csc:Scope}{pos:Pos}{depth:Nat}{g:Comprehension}{it:Value}{d:Addr}{env:Env}(hd:gens[depth]? =some g)(ha:∀g∈gens,g.is_async=0):
  compTurn (.DictComp ke ve gens csc pos) depth it (.ref d) env=turnT (.DictComp ke ve gens csc pos) gens depth g it (.ref d) env (do
   let kv←eval ke env
   let vv←holding [kv] (eval ve env)
   standAt { ke.pos with endLine:=ve.pos.endLine,endCol:=ve.pos.endCol }
   holding [kv,vv] (dictSet d kv vv)):=by
 have h0:g.is_async=0:=ha g (List.mem_of_getElem? hd)
 unfold compTurn turnT
 simp only[hd,h0]
 cases h1:gens[depth+1]? with
 |none=>rfl
 |some g'=>
  have h2:g'.is_async=0:=ha g' (List.mem_of_getElem? h1)
  simp only[h2,innerT,bne_self_eq_false,Bool.false_eq_true,if_false,bind_assoc,pure_bind]
  rfl
structure IsComp(e:Expr)(gens:List Comprehension)(acc:Value)(emit:Env→Sem Unit):Prop where
 cl:clausesOf e=gens
 turn:∀depth g it env,gens[depth]? =some g→compTurn e depth it acc env=turnT e gens depth g it acc env (emit env)
 loop:∀(A:Around) depth it env,A.under (.compLoop e depth it acc env)=A
 start:∀(A:Around) depth it env,A.under (.compStart e depth it acc env)=A
 denL:∀depth it env,denote table (.compLoop e depth it acc env)=(compTurn e depth it acc env).onRaise (fun x=>do noteFrame x env;theTreesLotGoes x)
 denS:∀depth it env,denote table (.compStart e depth it acc env)=(compStart e depth it acc env).onRaise (fun x=>do noteFrame x env;standAt theWindowsPlace)
 sync:∀g∈gens,g.is_async=0
theorem isComp_list{elt:Expr}{gens:List Comprehension}{csc:Scope}{pos:Pos}{acc:Value}(ha:∀g∈gens,g.is_async=0):
  IsComp (.ListComp elt gens csc pos) gens acc (fun env=>do let _←call (.builtin "list.append") [acc,←eval elt env]):=
 ⟨rfl,fun _ _ _ _ hd=>turn_list hd ha,fun _ _ _ _=>Around.under_of_weight rfl,fun _ _ _ _=>Around.under_of_weight rfl,fun _ _ _=>rfl,fun _ _ _=>rfl,ha⟩
theorem isComp_dict{ke ve:Expr}{gens:List Comprehension}{csc:Scope}{pos:Pos}{d:Addr}(ha:∀g∈gens,g.is_async=0):
  IsComp (.DictComp ke ve gens csc pos) gens (.ref d) (fun env=>do
   let kv←eval ke env
   let vv←holding [kv] (eval ve env)
   standAt { ke.pos with endLine:=ve.pos.endLine,endCol:=ve.pos.endCol }
   holding [kv,vv] (dictSet d kv vv)):=
 ⟨rfl,fun _ _ _ _ hd=>turn_dict hd ha,fun _ _ _ _=>Around.under_of_weight rfl,fun _ _ _ _=>Around.under_of_weight rfl,fun _ _ _=>rfl,fun _ _ _=>rfl,ha⟩
section
variable{C:Cx}{A:Around}{e:Expr}{gens:List Comprehension}{acc:Value}{emit:Env→Sem Unit}{env:Env}{s:Shared}{R:Result→Shared→Prop}
theorem start_code{depth:Nat}{it:Value}{g:Comprehension}(H:IsComp e gens acc emit)(hd:gens[depth]? =some g)
  (h0:codeAny C.M A (.compLoop e depth it acc env) R s) (h:wpAny C.M A (pyIter it) (fun it' s'=>codeAny C.M A (.compLoop e depth it' acc env) R s') NE s):
  codeAny C.M A (.compStart e depth it acc env) R s:=by
 have h0':g.is_async=0:=H.sync g (List.mem_of_getElem? hd)
 refine codeAny_of_tree ?_
 rw[H.start,show C.M.den (.compStart e depth it acc env)=denote table (.compStart e depth it acc env) from rfl,H.denS]
 refine wpAny_notedAt ?_
 have hcl:(clausesOf e)[depth]? =some g:=by rw[H.cl];exact hd
 unfold compStart
 simp only[hcl,Option.elim_some,h0',bne_self_eq_false,Bool.false_eq_true,if_false]
 refine wpAny_bind (wpAny_askSetting (wpAny_ite ?_))
 split
 ·exact wpAny_pure (And.intro rfl h0)
 ·exact wpAny_bind (wpAny_rule (wpAny_bind (wpAny_standAt (wpAny_bind (wpAny_mono h (fun it' s' h'=>wpAny_pure (And.intro rfl h')) fun _ _ x=>x.elim)))))
theorem loop_code{depth:Nat}{it:Value}{g:Comprehension}(H:IsComp e gens acc emit)(hd:gens[depth]? =some g)(J:Nat→Shared→Prop)
  (turn:∀n s,J n s→wpAny C.M A (pyNext it) (fun r s₁=>match r with
   |none=>R (.ok .next) s₁
   |some v=>wpAny C.M A (letOwnedTupleGo g.target it v) (fun _ s₁'=>wpAny C.M A (assign g.target env v) (fun _ s₂=>
     wpAny C.M A (forIn g.ifs true fun c r=>if r=true then do let ok←isTrue c env (eval c env);pure (ForInStep.yield ok) else pure (ForInStep.yield r)) (fun ok s₃=>
      if ok=true then wpAny C.M A (innerT e depth acc env (emit env) gens[depth+1]?) (fun _ s₄=>∃m,m<n∧J m s₄) NE s₃ else∃m,m<n∧J m s₃) NE s₂) NE s₁') NE s₁) NE s)
  (n:Nat) (h:J n s):codeAny C.M A (.compLoop e depth it acc env) R s:=by
 refine codeAny_loop rfl J (fun n s hJ=> ?_) n h
 rw[H.loop,show C.M.den (.compLoop e depth it acc env)=denote table (.compLoop e depth it acc env) from rfl,H.denL,H.turn depth g it env hd]
 refine wpAny_noted ?_
 unfold turnT
 refine wpAny_bind (wpAny_standAt (wpAny_bind (wpAny_mono (turn n s hJ) (fun r s₁ h₁=> ?_) fun _ _ x=>x.elim)))
 cases r with
 |none=>exact wpAny_pure h₁
 |some v=>
  refine wpAny_bind (wpAny_mono h₁ (fun _ s₁' h₁'=>wpAny_bind (wpAny_mono h₁' (fun _ s₂ h₂=>wpAny_bind (wpAny_mono h₂ (fun ok s₃ h₃=> ?_) fun _ _ x=>x.elim)) fun _ _ x=>x.elim)) fun _ _ x=>x.elim)
  cases ok with
  |false=>
   simp only[Bool.false_eq_true,if_false] at h₃ ⊢
   exact wpAny_pure ⟨rfl,h₃⟩
  |true=>
   simp only[if_true] at h₃ ⊢
   exact wpAny_bind (wpAny_mono h₃ (fun _ s₄ h₄=>wpAny_pure ⟨rfl,h₄⟩) fun _ _ x=>x.elim)
end
def KW(C:Cx)(Z:Addr→Prop)(s s':Shared):Prop:=∃h' tk,s'={ s with heap:=h',toks:=tk }∧s.toks≤tk∧(∀b o,b≠C.P→¬Z b→s.heap.get? b=some o→h'.get? b=some o)∧(∀b,b≠C.P→(∃o,s.heap.get? b=some o)→∃o,h'.get? b=some o)∧TabTo C s.heap h'
section
variable{C:Cx}{n:Nat}{r:Ev}{k:Bool}{A:Around}{env:Env}{Y W:List Addr}{l:Loc}{s s' s'':Shared}{Z Z':Addr→Prop}
theorem KP.kw(x:KP C s s'):KW C Z s s':=by
 obtain⟨h1,t1,rfl,l1,k1,b1⟩:=x
 exact⟨h1,t1,rfl,l1,fun b o hb _ e=>k1 b o hb e,fun b hb ⟨o,e⟩=>⟨o,k1 b o hb e⟩,b1⟩
theorem KW.mono(x:KW C Z s s')(h:∀b,Z b→Z' b):KW C Z' s s':=by
 obtain⟨h1,t1,rfl,l1,k1,e1,b1⟩:=x
 exact⟨h1,t1,rfl,l1,fun b o hb hz e=>k1 b o hb (fun z=>hz (h b z)) e,e1,b1⟩
theorem KW.refl(s:Shared):KW C Z s s:=(KP.refl s).kw
theorem KW.heap(x:KW C Z s s'){b:Addr}{o:Obj}(hb:b≠C.P)(hz:¬Z b)(e:s.heap.get? b=some o):s'.heap.get? b=some o:=by
 obtain⟨h1,t1,rfl,l1,k1,e1,b1⟩:=x
 exact k1 b o hb hz e
theorem KW.tabTo(x:KW C Z s s'):TabTo C s.heap s'.heap:=by
 obtain⟨h1,t1,rfl,l1,k1,e1,b1⟩:=x
 exact b1
theorem KW.toks(x:KW C Z s s'):s.toks≤s'.toks:=by
 obtain⟨h1,t1,rfl,l1,k1,e1,b1⟩:=x
 exact l1
theorem KW.exs(x:KW C Z s s')(t:TabOk C s.heap){a:Addr}(h:∃o,s.heap.get? a=some o):∃o,s'.heap.get? a=some o:=by
 by_cases hb:a=C.P
 ·subst hb
  obtain⟨ps,h1,_⟩:=(x.tabTo t).1
  exact⟨_,h1⟩
 ·obtain⟨h1,t1,rfl,l1,k1,e1,b1⟩:=x
  exact e1 a hb h
theorem TabTo.trans{h1 h2 h3:Heap}(x:TabTo C h1 h2)(y:TabTo C h2 h3)(e:TabOk C h1→∀b,(∃o,h1.get? b=some o)→∃o,h2.get? b=some o):TabTo C h1 h3:=fun z=>by
 refine⟨(y (x z).1).1,fun c hc=> ?_⟩
 rcases (y (x z).1).2 c hc with h|h
 ·exact(x z).2 c h
 ·refine .inr (none_of fun hs=> ?_)
  obtain⟨o,ho⟩:=e z c hs
  rw[h] at ho;cases ho
theorem KW.trans(x:KW C Z s s')(y:KW C Z s' s''):KW C Z s s'':=by
 have x':=x
 obtain⟨h1,t1,rfl,l1,k1,e1,b1⟩:=x
 obtain⟨h2,t2,rfl,l2,k2,e2,b2⟩:=y
 exact⟨h2,t2,rfl,znT l1 l2,fun b o hb hz e=>k2 b o hb hz (k1 b o hb hz e),fun b hb h=>e2 b hb (e1 b hb h),b1.trans b2 fun t b h=>x'.exs t h⟩
theorem TabTo.one{h h':Heap}{a:Addr}(ha:a≠C.P)(hc:¬CodeAt C h a)(k:∀b o,b≠a→h.get? b=some o→h'.get? b=some o):TabTo C h h':=fun x=>by
 obtain⟨ps,h1,h2,h3⟩:=x
 have h1':=k _ _ (Ne.symm ha) h1
 refine⟨⟨ps,h1',h2,fun pos cv e=> ?_⟩,fun c hc'=> ?_⟩
 ·obtain⟨c,o,vs,t,rfl,ho,hd⟩:=h3 pos cv e
  exact⟨c,o,vs,t,rfl,k _ _ (fun e'=>hc ⟨ps,pos,h1,e'▸e⟩) ho,hd⟩
 ·obtain⟨ps',pos,e1,e2⟩:=hc'
  rw[h1'] at e1;cases e1
  exact .inl ⟨ps,pos,h1,e2⟩
theorem KW.one{h':Heap}{tk:Nat}{a:Addr}(ht:s.toks≤tk)(hZ:Z a)(ha:a≠C.P)(hc:¬CodeAt C s.heap a)(k:∀b o,b≠a→s.heap.get? b=some o→h'.get? b=some o)(ho:∃o,h'.get? a=some o):KW C Z s { s with heap:=h',toks:=tk }:=by
 refine⟨h',tk,rfl,ht,fun b o hb hz e=>k b o (fun e'=>hz (e'▸hZ)) e,fun b hb ⟨o,e⟩=> ?_,.one ha hc k⟩
 by_cases e':b=a
 ·exact e'▸ho
 ·exact⟨o,k b o e' e⟩
theorem KW.code(x:KW C Z s s')(t:TabOk C s.heap){a:Addr}(ho:∃o,s.heap.get? a=some o)(h:¬CodeAt C s.heap a):¬CodeAt C s'.heap a:=fun hc=>by
 rcases (x.tabTo t).2 a hc with h'|h'
 ·exact h h'
 ·obtain⟨o,e⟩:=ho
  rw[h'] at e;cases e
theorem Gr.kw(Bs:Base C)(g:Gr C s)(x:KW C Z s s')(hZ:∀b,Z b→C.g0.get? b=none):Gr C s':=
 ⟨fun b o e=>x.heap (fun hb=>by rw[hb,Bs.hP] at e;cases e) (fun z=>by rw[hZ b z] at e;cases e) (g.keep b o e),(x.tabTo g.tab).1,fun e=>Nat.lt_of_lt_of_le (g.toks e) x.toks⟩
theorem RD.kw{v:Value}{d:D}(x:KW C Z s s')(hP:C.P∈Y)(hZ:∀b,Z b→b∈Y)(h:RD C s.heap Y v d):RD C s'.heap Y v d:=
 R.mono (fun a o e=>by
  obtain⟨e,n⟩:=view_get e
  exact view_of (x.heap (fun h=>n (h▸hP)) (fun z=>n (hZ a z)) e) n) h
theorem RDs.kw{v:List Value}{d:List D}(x:KW C Z s s')(hP:C.P∈Y)(hZ:∀b,Z b→b∈Y)(h:RDs C s.heap Y v d):RDs C s'.heap Y v d:=
 Rs.mono (fun a o e=>by
  obtain⟨e,n⟩:=view_get e
  exact view_of (x.heap (fun h=>n (h▸hP)) (fun z=>n (hZ a z)) e) n) h
theorem VarAt.kw{x:Str}{v:Value}(t:TabOk C s.heap)(w:KW C Z s s')(hl:¬Z env.locals)(hc:∀p∈env.cells,¬Z p.2)(a:VarAt env s.heap x v):VarAt env s'.heap x v:=by
 rcases a with ⟨hk,m,hn,hm⟩|⟨hk,c,hcl,hv⟩
 ·exact .inl ⟨hk,m,hn.at fun o e=>w.heap (tab_no_ns t hn) hl e,hm⟩
 ·obtain⟨o,ho,hd⟩:=id hv
  exact .inr ⟨hk,c,hcl,o,w.heap (tab_no_cell t hv) (hc _ (mem_of_lookup hcl)) ho,hd⟩
theorem Frm.kw(t:TabOk C s.heap)(w:KW C Z s s')(hl:¬Z env.locals)(hc:∀p∈env.cells,¬Z p.2)(f:Frm env s.heap):Frm env s'.heap:=by
 obtain⟨⟨m,hn⟩,hcl,ha⟩:=f
 refine⟨⟨m,hn.at fun o e=>w.heap (tab_no_ns t hn) hl e⟩,fun p hp=> ?_,ha⟩
 obtain⟨v,hv⟩:=hcl p hp
 obtain⟨o,ho,hd⟩:=id hv
 exact⟨v,o,w.heap (tab_no_cell t hv) (hc p hp) ho,hd⟩
theorem Pre.kw(p:Pre C n k A env Y l s)(x:KW C Z s s')(hZ:∀b,Z b→b∈Y)(hl:¬Z env.locals)(hc:∀p∈env.cells,¬Z p.2):Pre C n k A env Y l s':=
 ⟨p.bs,p.a,p.eo,p.gr.kw p.bs x fun b z=>p.hY b (hZ b z),p.hP,p.hY,fun a ha=>x.exs p.gr.tab (p.hYs a ha),p.fm.kw p.gr.tab x hl hc,p.hc,fun y d hy=>by
  obtain⟨v,a,rv⟩:=p.loc y d hy
  exact⟨v,a.kw p.gr.tab x hl hc,rv.kw x p.hP hZ⟩⟩
structure Own(C:Cx)(W:List Addr)(h:Heap):Prop where
 ne:∀a∈W,a≠C.P
 code:∀a∈W,¬CodeAt C h a
 ex:∀a∈W,∃o,h.get? a=some o
theorem Own.kw(o:Own C W s.heap)(t:TabOk C s.heap)(x:KW C Z s s'):Own C W s'.heap:=
 ⟨o.ne,fun a ha=>x.code t (o.ex a ha) (o.code a ha),fun a ha=>x.exs t (o.ex a ha)⟩
theorem assign1{x:Str}{v:Value}{d:D}{Q:Unit→Shared→Prop}(p:Pre C n k A env Y l s)(o:Own C W s.heap)(hx:env.kindOf x=some .local∨env.kindOf x=some .cell)(hW:env.locals∈W)
  (hWc:∀c,env.kindOf x=some .cell→env.cells.lookup x=some c→c∈W) (hWY:∀a∈W,a∈Y) (hv:RD C s.heap Y v d) (q:∀s',KW C (·∈W) s s'→Pre C n k A env Y (setL l x d) s'→Q () s'):
  wpAny C.M A (storeName env x v) Q NE s:=by
 refine store_sound p.eo.kind p.eo.cells p.fm hx fun h' tk a ht ha hs fm' hv' hk'=> ?_
 have haW:a∈W:=by
  rcases ha with rfl|⟨h1,h2⟩
  ·exact hW
  ·exact hWc a h1 h2
 have hlt:∃o,h'.get? a=some o:=by
  rcases ha with rfl|⟨h1,h2⟩
  ·obtain⟨m,o,es,ep,ho,_⟩:=fm'.ns
   exact⟨o,ho⟩
  ·obtain⟨v,o,ho,_⟩:=fm'.cl _ (mem_of_lookup h2)
   exact⟨o,ho⟩
 have kw:KW C (·∈W) s { s with heap:=h',toks:=tk }:=KW.one ht haW (o.ne a haW) (o.code a haW) (fun b o hb e=>by rw[hs.2 b hb];exact e) hlt
 refine q _ kw ⟨p.bs,p.a,p.eo,p.gr.kw p.bs kw fun b z=>p.hY b (hWY b z),p.hP,p.hY,fun a ha=>kw.exs p.gr.tab (p.hYs a ha),fm',p.hc,fun y d' hy=> ?_⟩
 unfold setL at hy
 split at hy
 ·rename_i e;subst e;cases hy
  exact⟨v,hv',hv.kw kw p.hP hWY⟩
 ·rename_i e
  obtain⟨u,hu,ru⟩:=p.loc y d' hy
  exact⟨u,hk' y u e hu,ru.kw kw p.hP hWY⟩
end
def tgtNames:Expr→List Str
 | .Name x _=>[x]
 | .Tuple [.Name x _,.Name y _] _ _=>[x,y]
 |_=>[]
def TgtOk(env:Env)(W:List Addr)(t:Expr):Prop:=∀x∈tgtNames t,(env.kindOf x=some .local∨env.kindOf x=some .cell)∧∀c,env.kindOf x=some .cell→env.cells.lookup x=some c→c∈W
section
variable{C:Cx}{n:Nat}{r:Ev}{k:Bool}{A:Around}{env:Env}{Y W:List Addr}{l l':Loc}{s s' s'':Shared}{Z Z':Addr→Prop}
theorem Pre.weak(p:Pre C n k A env Y l' s)(h:∀x d,l x=some d→l' x=some d):Pre C n k A env Y l s:=
 ⟨p.bs,p.a,p.eo,p.gr,p.hP,p.hY,p.hYs,p.fm,p.hc,fun x d e=>p.loc x d (h x d e)⟩
theorem view_sub{h:Heap}{Y Y':List Addr}(hs:∀a∈Y,a∈Y'):∀a o,view h Y' a=some o→view h Y a=some o:=fun a o e=>by
 obtain⟨e,n⟩:=view_get e
 exact view_of e fun hm=>n (hs a hm)
theorem RD.more{h h':Heap}{I:Addr}{v:Value}{d:D}(hn:h.get? I=none)(hk:∀b o,h.get? b=some o→h'.get? b=some o)(x:RD C h Y v d):RD C h' (I::Y) v d:=
 R.mono (view_more (Z:=[I]) (fun b o _ e=>hk b o e) fun b hb=>by simp at hb;subst hb;exact hn) x
theorem Pre.more{I:Addr}{h':Heap}{tk:Nat}(p:Pre C n k A env Y l s)(hn:s.heap.get? I=none)(ht:s.toks≤tk)(hk:∀b o,s.heap.get? b=some o→h'.get? b=some o)(hI:∃o,h'.get? I=some o):Pre C n k A env (I::Y) l { s with heap:=h',toks:=tk }:=by
 have kp:KP C s { s with heap:=h',toks:=tk }:=KP.of ht hk
 have p':=p.kp kp
 refine⟨p.bs,p.a,p.eo,p'.gr,zmC _ p.hP,fun a ha=> ?_,fun a ha=> ?_,p'.fm,fun q hq=>zmC _ (p.hc q hq),fun x d e=> ?_⟩
 ·rcases zcon.mp ha with rfl|ha
  ·exact none_of fun⟨o,ho⟩=>by rw[p.gr.keep _ o ho] at hn;cases hn
  ·exact p.hY a ha
 ·rcases zcon.mp ha with rfl|ha
  ·exact hI
  ·exact p'.hYs a ha
 ·obtain⟨v,a,rv⟩:=p.loc x d e
  exact⟨v,a.kp p.gr.tab kp,rv.more hn hk⟩
theorem bindT_le{t:Expr}{d:D}(h:bindT l t d=some l'):∀x e,l x=some e→l' x=some e:=by
 intro x e hx
 unfold bindT at h
 split at h
 ·split at h
  ·cases h
  ·rename_i hn;cases h
   unfold setL
   split
   ·rename_i e';subst e';rw[hx] at hn;exact absurd rfl hn
   ·exact hx
 ·split at h
  ·split at h
   ·cases h
   ·rename_i hn;cases h
    rw[not_or] at hn
    unfold setL
    split
    ·rename_i e';subst e';rw[hx] at hn;exact absurd rfl hn.2
    ·split
     ·rename_i e';subst e';rw[hx] at hn;exact absurd rfl hn.1
     ·exact hx
  ·cases h
 ·cases h
theorem bindT_sound{t:Expr}{v:Value}{d:D}{Q:Unit→Shared→Prop}(p:Pre C n k A env Y l s)(o:Own C W s.heap)(hT:TgtOk env W t)(hW:env.locals∈W)(hWY:∀a∈W,a∈Y)(hv:RD C s.heap Y v d)(hb:bindT l t d=some l')
  (q:∀s',KW C (·∈W) s s'→Pre C n k A env Y l' s'→Q () s'):wpAny C.M A (assign t env v) Q NE s:=by
 unfold bindT at hb
 split at hb
 ·split at hb
  ·cases hb
  ·cases hb
   rename_i x _ _
   obtain⟨h1,h2⟩:=hT x (by simp[tgtNames])
   exact wpAny_assign_Name (assign1 p o h1 hW h2 hWY hv q)
 ·split at hb
  ·split at hb
   ·cases hb
   ·cases hb
    rename_i x px y py _ _ _ a b _
    obtain⟨h1,h2⟩:=hT x (by simp[tgtNames])
    obtain⟨h3,h4⟩:=hT y (by simp[tgtNames])
    obtain⟨t,vs,m,rfl,ho,rs⟩:=hv.tup_inv
    have hl:=rs.length
    match vs,hl,ho,rs with
    |[u1,u2],_,ho,rs=>
     refine wpAny_assign_Tuple p.a.handled (isTuple_of ho) rfl rfl fun h' hk=> ?_
     have kp:KP C s { s with heap:=h' }:=KP.of nL fun b o e=>hk b o (fun e'=>Nat.lt_irrefl _ (e'▸Heap.lt_size e)) e
     have p':=p.kp kp
     have rs':=RDs.kp kp p.hP rs
     cases rs' with|cons r1 rs''=>cases rs'' with|cons r2 _=>
     refine assignInOrder_cons (wpAny_assign_Name (assign1 (l:=l) p' (o.kw p.gr.tab kp.kw (Z:=fun _=>False)) h1 hW h2 hWY r1 fun s1 kw1 p1=> ?_))
     refine assignInOrder_cons (wpAny_assign_Name (assign1 p1 ((o.kw p.gr.tab kp.kw (Z:=fun _=>False)).kw p'.gr.tab kw1) h3 hW h4 hWY (RD.kw kw1 p.hP hWY r2) fun s2 kw2 p2=> ?_))
     exact assignInOrder_nil (q s2 ((KP.kw kp).trans (kw1.trans kw2)) p2)
  ·cases hb
 ·cases hb
theorem letGo_sound{I:Addr}{t:Expr}{v:Value}{Q:Unit→Shared→Prop}(hI:∃o,s.heap.get? I=some o∧(o.cls= .type "list_iterator"∨o.cls= .type "tuple_iterator"∨o.cls= .type "range_iterator"))(q:Q () s):
  wpAny C.M A (letOwnedTupleGo t (.ref I) v) Q NE s:=by
 obtain⟨o,ho,hc⟩:=hI
 have main:wpAny C.M A (do
  let (.ref r,.ref a):=((Value.ref I),v)|return
  let o←load r
  match o.cls,o.data with
  | .type n,.fields vs=>
    if ["enumerate","zip","dict_itemiterator","dict_reverseitemiterator","odict_iterator","itertools.zip_longest","itertools.pairwise"].contains n&&vs[0]? ==some (rawInt a) then
     rule "for.unpacks-the-owned-tuple"
     updateField r 0 .none
  |_,_=>pure ()) Q NE s:=by
  cases v with
  |ref a=>
   refine wpAny_bind (wpAny_load ho ?_)
   rcases hc with hc|hc|hc <;> rw[hc] <;> cases hd:o.data <;> exact wpAny_pure q
  |_=>exact wpAny_pure q
 unfold letOwnedTupleGo
 split
 ·exact main
 ·exact main
 ·exact wpAny_pure q
end
structure AccS(DD:Addr)(Acc:List Addr→Heap→List D→Prop):Prop where
 frame:∀Y h h' a0,Acc Y h a0→(∀o,h.get? DD=some o→h'.get? DD=some o)→(∀b o,b∉Y→h.get? b=some o→h'.get? b=some o)→Acc Y h' a0
 more:∀Y h h' a0 I,Acc Y h a0→h.get? I=none→(∀b o,h.get? b=some o→h'.get? b=some o)→Acc (I::Y) h' a0
 sub:∀Y Y' h a0,(∀b∈Y',b∈Y)→Acc Y h a0→Acc Y' h a0
def EmitOk(C:Cx)(n:Nat)(k:Bool)(A:Around)(env:Env)(DD:Addr)(Acc:List Addr→Heap→List D→Prop)(emitD:Loc→Option D)(emit:Sem Unit):Prop:=
 ∀Y l d s a0 (Q:Unit→Shared→Prop),emitD l=some d→Pre C n k A env Y l s→Own C [DD] s.heap→DD∈Y→Acc Y s.heap a0→a0.length<lim→(∀s',KW C (·=DD) s s'→Acc Y s'.heap (a0++[d])→Q () s')→wpAny C.M A emit Q NE s
section
variable{C:Cx}{n:Nat}{r:Ev}{k:Bool}{A:Around}{env:Env}{Y W:List Addr}{l l':Loc}{s s' s'':Shared}{Z Z':Addr→Prop}
variable{DD:Addr}{Acc:List Addr→Heap→List D→Prop}{emitD:Loc→Option D}{emit:Env→Sem Unit}{e:Expr}{gens:List Comprehension}{acc:Value}
theorem AccS.kw(a:AccS DD Acc){a0:List D}(x:KW C Z s s')(hP:C.P∈Y)(hZ:∀b,Z b→b∈Y)(hD:¬Z DD)(hDP:DD≠C.P)(h:Acc Y s.heap a0):Acc Y s'.heap a0:=
 a.frame Y _ _ a0 h (fun o e=>x.heap hDP hD e) fun b o hb e=>x.heap (fun e'=>hb (e'▸hP)) (fun z=>hb (hZ b z)) e
theorem ItR.kw{I:Addr}{ds:List D}(i:ItR C A Y I ds s.heap)(x:KW C Z s s')(hP:C.P∈Y)(hZ:∀b,Z b→b∈Y)(hI:¬Z I)(hIP:I≠C.P):ItR C A Y I ds s'.heap:=
 i.keep (fun o e=>x.heap hIP hI e) fun b o hb e=>x.heap (fun e'=>hb (e'▸hP)) (fun z=>hb (hZ b z)) e
theorem testAll_sound(S:SE C n r)(a1:AOk (n+1) A){ts:List Expr}{b:Bool}{Q:Bool→Shared→Prop}(p:Pre C n k A env Y l s)(h:testAll r k env.scope l ts=some b)(q:∀s',KP C s s'→Pre C n k A env Y l s'→Q b s'):
  wpAny C.M A (forIn ts true fun c r=>if r=true then do let ok←isTrue c env (eval c env);pure (ForInStep.yield ok) else pure (ForInStep.yield r)) Q NE s:=by
 unfold testAll at h
 split at h
 ·cases h;exact wpAny_tests_nil (q s (KP.refl s) p)
 ·exact wpAny_tests_one (Bt_sound S a1 4 p h q)
 ·cases h
def KL(C:Cx)(I:Addr)(Z:Addr→Prop)(s s':Shared):Prop:=∃h' tk,s'={ s with heap:=h',toks:=tk }∧s.toks≤tk∧(∀b o,b≠C.P→¬Z b→s.heap.get? b=some o→h'.get? b=some o)∧(∀b,b≠C.P→b≠I→(∃o,s.heap.get? b=some o)→∃o,h'.get? b=some o)∧TabTo C s.heap h'
theorem KL.one{I:Addr}{h':Heap}{tk:Nat}(ht:s.toks≤tk)(ha:I≠C.P)(hc:¬CodeAt C s.heap I)(k:∀b o,b≠I→s.heap.get? b=some o→h'.get? b=some o):KL C I (·=I) s { s with heap:=h',toks:=tk }:=
 ⟨h',tk,rfl,ht,fun b o _ hz e=>k b o hz e,fun b _ hb ⟨o,e⟩=>⟨o,k b o hb e⟩,.one ha hc k⟩
theorem KW.last{I:Addr}(x:KW C Z s s')(y:KL C I Z' s' s'')(h:∀b,Z' b→Z b):KL C I Z s s'':=by
 have x':=x
 obtain⟨h1,t1,rfl,l1,k1,e1,b1⟩:=x
 obtain⟨h2,t2,rfl,l2,k2,e2,b2⟩:=y
 exact⟨h2,t2,rfl,znT l1 l2,fun b o hb hz e=>k2 b o hb (fun z=>hz (h b z)) (k1 b o hb hz e),fun b hb hi ho=>e2 b hb hi (e1 b hb ho),b1.trans b2 fun t b h=>x'.exs t h⟩
theorem KW.lastNew{I:Addr}(x:KW C Z s s')(hI:s.heap.get? I=none)(y:KL C I Z' s' s'')(h:∀b,Z' b→b=I∨Z b):KW C Z s s'':=by
 have x':=x
 obtain⟨h1,t1,rfl,l1,k1,e1,b1⟩:=x
 obtain⟨h2,t2,rfl,l2,k2,e2,b2⟩:=y
 have ne:∀b o,s.heap.get? b=some o→b≠I:=fun b o e e'=>by rw[e',hI] at e;cases e
 exact⟨h2,t2,rfl,znT l1 l2,fun b o hb hz e=>k2 b o hb (fun z=>(h b z).elim (ne b o e) hz) (k1 b o hb hz e),fun b hb ⟨o,ho⟩=>e2 b hb (ne b o ho) (e1 b hb ⟨o,ho⟩),b1.trans b2 fun t b h=>x'.exs t h⟩
theorem Pre.last{I:Addr}(p:Pre C n k A env (I::Y) l s)(x:KL C I (·=I) s s')(hP:C.P∈Y)(hI:I∉Y)(hc:∀p∈env.cells,p.2∈Y)(hl:env.locals≠I):Pre C n k A env Y l s':=by
 have ci:∀p∈env.cells,p.2≠I:=fun q hq e=>hI (e▸hc q hq)
 have t:=p.gr.tab
 have p':=p
 obtain⟨h1,t1,rfl,l1,k1,e1,b1⟩:=x
 have t':TabOk C h1:=(b1 t).1
 refine⟨p.bs,p.a,p.eo,⟨fun b o e=>k1 b o (fun hb=>by rw[hb,p.bs.hP] at e;cases e) (fun z=>by rw[p.hY b (by simp[z])] at e;cases e) (p.gr.keep b o e),t',fun e=>Nat.lt_of_lt_of_le (p.gr.toks e) l1⟩,hP,fun a ha=>p.hY a (zmC _ ha),fun a ha=> ?_,?_,hc,?_⟩
 ·by_cases e:a=C.P
  ·subst e;obtain⟨ps,h1,_⟩:=t';exact⟨_,h1⟩
  ·exact e1 a e (fun e=>hI (e▸ha)) (p.hYs a (zmC _ ha))
 ·obtain⟨⟨m,hn⟩,hcl,ha⟩:=p.fm
  refine⟨⟨m,hn.at fun o e=>k1 _ o (tab_no_ns t hn) hl e⟩,fun q hq=> ?_,ha⟩
  obtain⟨v,hv⟩:=hcl q hq
  obtain⟨o,ho,hd⟩:=id hv
  exact⟨v,o,k1 _ o (tab_no_cell t hv) (ci q hq) ho,hd⟩
 ·intro y d hy
  obtain⟨v,a,rv⟩:=p.loc y d hy
  refine⟨v,?_,R.mono (fun a o e=> ?_) rv⟩
  ·rcases a with ⟨hk,m,hn,hm⟩|⟨hk,c,hcl,hv⟩
   ·exact .inl ⟨hk,m,hn.at fun o e=>k1 _ o (tab_no_ns t hn) hl e,hm⟩
   ·obtain⟨o,ho,hd⟩:=id hv
    exact .inr ⟨hk,c,hcl,o,k1 _ o (tab_no_cell t hv) (ci _ (mem_of_lookup hcl)) ho,hd⟩
  ·obtain⟨e,nn⟩:=view_get e
   exact view_of (k1 a o (fun h=>nn (zmC _ (h▸hP))) (fun z=>nn (by simp[z])) e) fun hm=>nn (zmC _ hm)
structure CL(C:Cx)(A:Around)(env:Env)(W:List Addr)(DD:Addr)(Acc:List Addr→Heap→List D→Prop)(gens:List Comprehension):Prop where
 acc:AccS DD Acc
 tgt:∀g∈gens,TgtOk env W g.target∧isSetE g.iter=false
 loc:env.locals∈W
 nD:DD∉W
 cD:∀p∈env.cells,p.2≠DD
structure LS(C:Cx)(n:Nat)(k:Bool)(A:Around)(env:Env)(W:List Addr)(DD:Addr)(Acc:List Addr→Heap→List D→Prop)(Y:List Addr)(l:Loc)(I:Addr)(its a0:List D)(s:Shared):Prop where
 pre:Pre C n k A env (I::Y) l s
 hP:C.P∈Y
 WY:∀a∈DD::W,a∈Y
 nI:I∉Y
 cY:∀p∈env.cells,p.2∈Y
 own:Own C (I::DD::W) s.heap
 it:ItR C A (I::Y) I its s.heap
 acc:Acc (I::Y) s.heap a0
theorem Own.sub{W W':List Addr}{h:Heap}(o:Own C W h)(hs:∀a∈W',a∈W):Own C W' h:=⟨fun a ha=>o.ne a (hs a ha),fun a ha=>o.code a (hs a ha),fun a ha=>o.ex a (hs a ha)⟩
theorem loop_sound(S:SE C n r)(a1:AOk (n+1) A)(H:IsComp e gens acc emit)(c:CL C A env W DD Acc gens){j:Nat}{g:Comprehension}(hg:gens[j]? =some g){deep:Loc→Option (List D)}
  (dp:∀(l':Loc) (here a0:List D) (I:Addr) (its:List D) (s:Shared) (Q:Unit→Shared→Prop),deep l'=some here→a0.length+here.length≤lim→LS C n k A env W DD Acc Y l' I its a0 s→
   (∀s',KW C (fun b=>b∈DD::W) s s'→Pre C n k A env (I::Y) l' s'→Acc (I::Y) s'.heap (a0++here)→Q () s')→wpAny C.M A (innerT e j acc env (emit env) gens[j+1]?) Q NE s)
  {its out a0:List D} {I:Addr} {R:Result→Shared→Prop} (h:compLoop r k env.scope l g deep its=some out) (hlen:a0.length+out.length≤lim) (st:LS C n k A env W DD Acc Y l I its a0 s)
  (q:∀s',KL C I (fun b=>b∈I::DD::W) s s'→Pre C n k A env Y l s'→Acc Y s'.heap (a0++out)→R (.ok .next) s'):codeAny C.M A (.compLoop e j (.ref I) acc env) R s:=by
 have hgm:g∈gens:=List.mem_of_getElem? hg
 refine loop_code H hg (fun m s1=>∃its' out' a',its'.length=m∧compLoop r k env.scope l g deep its'=some out'∧a'++out'=a0++out∧LS C n k A env W DD Acc Y l I its' a' s1∧KW C (fun b=>b∈I::DD::W) s s1) ?_ its.length ⟨its,out,a0,rfl,h,rfl,st,KW.refl s⟩
 rintro m s1 ⟨its',out',a',hm,hc,ha',st1,kw1⟩
 have hWY:∀a∈I::DD::W,a∈I::Y:=fun a ha=>by
  rcases zcon.mp ha with e|ha
  ·simp[e]
  ·exact zmC _ (st1.WY a ha)
 have hDP:DD≠C.P:=st1.own.ne DD (by simp)
 have hIP:I≠C.P:=st1.own.ne I (by simp)
 have hnI:I∉W:=fun h=>st1.nI (st1.WY I (by simp[h]))
 have hiD:I≠DD:=fun h=>st1.nI (st1.WY I (by simp[h]))
 have hcI:∀p∈env.cells,p.2≠I:=fun p hp e=>st1.nI (e▸st1.cY p hp)
 have hIl:I≠env.locals:=fun e=>hnI (e▸c.loc)
 have hDl:DD≠env.locals:=fun e=>c.nD (e▸c.loc)
 cases its' with
 |nil=>
  cases hc
  refine next_nil st1.it fun h' tk ht hk=> ?_
  have kl:KL C I (·=I) s1 { s1 with heap:=h',toks:=tk }:=KL.one ht hIP (st1.own.code I (by simp)) hk
  refine q _ (kw1.last kl fun b e=>by simp[e]) (st1.pre.last kl st1.hP st1.nI st1.cY (Ne.symm hIl)) ?_
  rw[←ha',List.append_nil]
  refine c.acc.sub (I::Y) Y _ _ (fun b hb=>zmC _ hb) (c.acc.frame _ _ _ _ st1.acc (fun o e=>hk _ o (Ne.symm hiD) e) fun b o hb e=>hk b o (fun e'=>hb (by simp[e'])) e)
 |cons d ds=>
  unfold compLoop at hc
  obtain⟨l',hl',hc⟩:=zbs.mp hc
  obtain⟨ok,hok,hc⟩:=zbs.mp hc
  obtain⟨here,more,hhere,hmore,rfl⟩:∃here more,(if ok=true then deep l' else some [])=some here∧compLoop r k env.scope l g deep ds=some more∧here++more=out':=by
   cases ok with
   |false=>
    obtain⟨more,hmore,hc⟩:=zbs.mp (show Option.bind (compLoop r k env.scope l g deep ds) (fun more=>some ([]++more))=some out' from hc)
    cases hc
    exact⟨[],more,rfl,hmore,rfl⟩
   |true=>
    obtain⟨here,hhere,hc⟩:=zbs.mp (show Option.bind (deep l') (fun here=>Option.bind (compLoop r k env.scope l g deep ds) (fun more=>some (here++more)))=some out' from hc)
    obtain⟨more,hmore,hc⟩:=zbs.mp hc
    cases hc
    exact⟨here,more,hhere,hmore,rfl⟩
  refine next_cons (hWY I (by simp)) st1.it fun v h' tk ht hk it2 hv=> ?_
  obtain⟨o2,ho2,hcl2⟩:=it2.obj
  have kw2:KW C (fun b=>b=I) s1 { s1 with heap:=h',toks:=tk }:=KW.one ht rfl hIP (st1.own.code I (by simp)) hk ⟨o2,ho2⟩
  have hZ:∀b,b=I→b∈I::Y:=fun b e=>hWY b (by simp[e])
  have p2:=st1.pre.kw kw2 hZ (fun e=>hIl e.symm) hcI
  have own2:=st1.own.kw st1.pre.gr.tab kw2
  have acc2:=c.acc.kw kw2 st1.pre.hP hZ (fun e=>hiD e.symm) hDP st1.acc
  refine letGo_sound ⟨o2,ho2,hcl2⟩ ?_
  have hWY':∀a∈W,a∈I::Y:=fun a ha=>hWY a (by simp[ha])
  refine bindT_sound p2 (own2.sub fun a ha=>by simp[ha]) (c.tgt g hgm).1 c.loc hWY' hv hl' fun s3 kw3 p3=> ?_
  have own3:=own2.kw p2.gr.tab kw3
  have it3:=it2.kw kw3 p2.hP hWY' hnI hIP
  have acc3:=c.acc.kw kw3 p2.hP hWY' c.nD hDP acc2
  refine testAll_sound S a1 p3 hok fun s4 kp4 p4=> ?_
  have kw4:KW C (fun _=>False) s3 s4:=kp4.kw
  have own4:=own3.kw p3.gr.tab kw4
  have it4:=it3.kw kw4 p2.hP (fun _ f=>f.elim) (fun f=>f) hIP
  have acc4:=c.acc.kw kw4 p2.hP (fun _ f=>f.elim) (fun f=>f) hDP acc3
  have kw14:KW C (fun b=>b∈I::DD::W) s s4:=kw1.trans ((kw2.mono fun b e=>by simp[e]).trans ((kw3.mono fun b e=>by simp[e]).trans (kw4.mono fun b f=>f.elim)))
  have hm':ds.length<m:=by rw[←hm];simp
  cases ok with
  |false=>
   simp only[Bool.false_eq_true,if_false] at hhere ⊢
   cases hhere
   exact⟨ds.length,hm',ds,more,a',rfl,hmore,ha',⟨p4.weak (bindT_le hl'),st1.hP,st1.WY,st1.nI,st1.cY,own4,it4,acc4⟩,kw14⟩
  |true=>
   simp only[if_true] at hhere ⊢
   have hlen':a'.length+here.length≤lim:=by
    have:=congrArg List.length ha'
    simp only[List.length_append] at this
    omega
   refine dp l' here a' I ds s4 _ hhere hlen' ⟨p4,st1.hP,st1.WY,st1.nI,st1.cY,own4,it4,acc4⟩ fun s5 kw5 p5 acc5=> ?_
   have hZ5:∀b,b∈DD::W→b∈I::Y:=fun b hb=>hWY b (zmC _ hb)
   have hI5:I∉DD::W:=by
    intro hm;rcases zcon.mp hm with e|e
    ·exact hiD e
    ·exact hnI e
   exact⟨ds.length,hm',ds,more,a'++here,rfl,hmore,by rw[List.append_assoc];exact ha',⟨p5.weak (bindT_le hl'),st1.hP,st1.WY,st1.nI,st1.cY,own4.kw p4.gr.tab kw5,it4.kw kw5 p2.hP hZ5 hI5 hIP,acc5⟩,kw14.trans (kw5.mono fun b hb=>zmC _ hb)⟩
end
section
variable{C:Cx}{n:Nat}{r:Ev}{k:Bool}{A:Around}{env:Env}{W:List Addr}{s s' s'':Shared}
variable{DD:Addr}{Acc:List Addr→Heap→List D→Prop}{emitD:Loc→Option D}{emit:Env→Sem Unit}{e:Expr}{gens:List Comprehension}{acc:Value}
theorem notFolded{g:Expr}(h:isSetE g=false)(env:Env)(x:Value):foldedSetIterable g env x=pure x:=by
 cases g <;> first|rfl|(simp[isSetE] at h)
theorem newAddr(h:Heap):h.get? h.objs.size=none:=none_of fun⟨o,e⟩=>Nat.lt_irrefl _ (Heap.lt_size e)
theorem comp_sound(S:SE C n r)(a1:AOk (n+1) A)(H:IsComp e gens acc emit)(c:CL C A env W DD Acc gens)(em:EmitOk C n k A env DD Acc emitD (emit env)):
  ∀(gs:List Comprehension) (j:Nat) (Y:List Addr) (l:Loc) (I:Addr) (its out a0:List D) (s:Shared) (R:Result→Shared→Prop),gens.drop j=gs→comp r k env.scope emitD gs l its=some out→a0.length+out.length≤lim→
   LS C n k A env W DD Acc Y l I its a0 s→(∀s',KL C I (fun b=>b∈I::DD::W) s s'→Pre C n k A env Y l s'→Acc Y s'.heap (a0++out)→R (.ok .next) s')→codeAny C.M A (.compLoop e j (.ref I) acc env) R s
 |[],j,Y,l,I,its,out,a0,s,R,hj,h,hlen,st,q=>by cases h
 |[g],j,Y,l,I,its,out,a0,s,R,hj,h,hlen,st,q=>by
  have hg:gens[j]? =some g:=by rw[←List.head?_drop,hj];rfl
  have hg':gens[j+1]? =none:=by
   have:=congrArg List.length hj
   simp only[List.length_drop,List.length_singleton] at this
   exact List.getElem?_eq_none kO
  refine loop_sound S a1 H c hg (fun l' here a0 I its s Q hd hl st q=> ?_) h hlen st q
  obtain⟨d,hd',rfl⟩:=Option.map_eq_some_iff.mp hd
  rw[hg']
  refine em (I::Y) l' d s a0 Q hd' st.pre (st.own.sub fun a ha=>by simp at ha;simp[ha]) (zmC _ (st.WY DD (by simp))) st.acc (Nat.lt_of_succ_le (by simpa using hl)) fun s' kw ac=> ?_
  exact q s' (kw.mono fun b e=>by simp[e]) (st.pre.kw kw (fun b e=>zmC _ (st.WY b (by simp[e]))) (fun e=>c.nD (e▸c.loc)) fun p hp=>c.cD p hp) ac
 |g::g'::gs,j,Y,l,I,its,out,a0,s,R,hj,h,hlen,st,q=>by
  have hg:gens[j]? =some g:=by rw[←List.head?_drop,hj];rfl
  have hj':gens.drop (j+1)=g'::gs:=by rw[←List.drop_drop,hj];rfl
  have hg':gens[j+1]? =some g':=by rw[←List.head?_drop,hj'];rfl
  have hset:isSetE g'.iter=false:=(c.tgt g' (List.mem_of_getElem? hg')).2
  refine loop_sound S a1 H c hg (fun l' here a0 I its s Q hd hl st q=> ?_) h hlen st q
  obtain⟨its',h1,hd⟩:=zbs.mp hd
  obtain⟨d1,h1,h2⟩:=zbs.mp h1
  rw[hg']
  unfold innerT
  refine wpAny_bind (S.at st.pre h1 fun v s1 kp1 p1 rv=>wpAny_bind (wpAny_standAt (wpAny_bind (wpAny_of_eq (notFolded hset env v) (wpAny_bind (wpAny_holding ?_))))))
  have kw1:KW C (fun _=>False) s s1:=kp1.kw
  refine iter_sound p1.a.handled p1.lt rv h2 fun h' hk it2=> ?_
  have hn:s1.heap.get? s1.heap.objs.size=none:=newAddr _
  obtain⟨oi,hoi,_⟩:=it2.obj
  have p2:Pre C n k A env (s1.heap.objs.size::I::Y) l' { s1 with heap:=h' }:=p1.more hn nL hk ⟨oi,hoi⟩
  have kp2:KP C s1 { s1 with heap:=h' }:=KP.of nL hk
  have hDP:DD≠C.P:=st.own.ne DD (by simp)
  have own1:=st.own.kw st.pre.gr.tab kw1
  have own2:=own1.kw p1.gr.tab (KP.kw kp2 (Z:=fun _=>False))
  have acc1:=c.acc.kw kw1 st.pre.hP (fun _ f=>f.elim) (fun f=>f) hDP st.acc
  have acc2:=c.acc.more _ _ h' _ s1.heap.objs.size acc1 hn hk
  have hnY:s1.heap.objs.size∉I::Y:=fun hm=>Nat.lt_irrefl _ (p1.lt _ hm)
  have hnP:s1.heap.objs.size≠C.P:=fun e=>hnY (e▸p1.hP)
  have st2:LS C n k A env W DD Acc (I::Y) l' s1.heap.objs.size its' a0 { s1 with heap:=h' }:=by
   refine⟨p2,p1.hP,fun a ha=>zmC _ (st.WY a ha),hnY,fun p hp=>zmC _ (st.cY p hp),⟨fun a ha=> ?_,fun a ha=> ?_,fun a ha=> ?_⟩,it2,acc2⟩
   ·rcases zcon.mp ha with rfl|ha
    ·exact hnP
    ·exact own2.ne a (zmC _ ha)
   ·rcases zcon.mp ha with rfl|ha
    ·intro hc
     rcases (kp2.tabTo p1.gr.tab).2 _ hc with h|h
     ·obtain⟨o,ho⟩:=p1.gr.tab.code h
      rw[hn] at ho;cases ho
     ·obtain⟨ps,pos,e1,e2⟩:=hc
      obtain⟨ps',h1',_⟩:=p1.gr.tab
      have:=hk _ _ h1'
      rw[this] at e1;cases e1
      obtain⟨o,ho⟩:=p1.gr.tab.code ⟨ps,pos,h1',e2⟩
      rw[hn] at ho;cases ho
    ·exact own2.code a (zmC _ ha)
   ·rcases zcon.mp ha with rfl|ha
    ·exact⟨oi,hoi⟩
    ·exact own2.ex a (zmC _ ha)
  have loop:codeAny C.M A (.compLoop e (j+1) (.ref s1.heap.objs.size) acc env) (fun r s'=>match r with| .ok f=>wpAny C.M A (pure ():Sem Unit) Q NE s'| .error x=>cameBackBy C.M A env NE x s') { s1 with heap:=h' }:=by
   refine comp_sound S a1 H c em (g'::gs) (j+1) (I::Y) l' s1.heap.objs.size its' here a0 _ _ hj' hd hl st2 fun s3 kl3 p3 acc3=> ?_
   refine wpAny_pure (q s3 ?_ p3 acc3)
   have k12:KW C (fun b=>b∈DD::W) s { s1 with heap:=h' }:=(kp1.trans kp2).kw
   have hns:s.heap.get? s1.heap.objs.size=none:=none_of fun ho=>by
    obtain⟨o,e⟩:=kp1.some st.pre.gr.tab ho
    rw[hn] at e;cases e
   exact k12.lastNew hns kl3 fun b hb=>by simpa using hb
  refine wpAny_bind (wpAny_runOwn ?_)
  exact start_code H hg' loop (self_sound it2 loop)
end
def closL(cells:List (Str×Addr)):List (Str×NameKind)→List (Str×Addr)→List (Str×Addr)
 |[],acc=>acc
 |(x,kd)::rs,acc=>if kd== .free then match cells.lookup x with
  |some c=>closL cells rs ((x,c)::acc)
  |none=>closL cells rs acc
  else closL cells rs acc
theorem closureFor_eq{scope:Scope}{env:Env}(h:∀p∈scope.names,p.2= .free→(env.cells.lookup p.1).isSome=true):closureFor scope env=pure (closL env.cells scope.names []):=by
 have main:∀(names:List (Str×NameKind)) (acc:List (Str×Addr)) (f:Str×NameKind→List (Str×Addr)→Sem (ForInStep (List (Str×Addr)))),(∀x kd a,f (x,kd) a=if kd== .free then (do let c←cellOf env x;pure (.yield ((x,c)::a))) else pure (.yield a))→
   (∀p∈names,p.2= .free→(env.cells.lookup p.1).isSome=true)→forIn names acc f=pure (closL env.cells names acc):=by
  intro names
  induction names with
  |nil=>intro acc f hf hn;rfl
  |cons p rs ih=>
   obtain⟨x,kd⟩:=p
   intro acc f hf hn
   rw[List.forIn_cons,hf]
   have hn':∀p∈rs,p.2= .free→(env.cells.lookup p.1).isSome=true:=fun p hp=>hn p (zmC _ hp)
   unfold closL
   cases hk:(kd==NameKind.free) with
   |false=>simp only[Bool.false_eq_true,if_false,pure_bind];exact ih acc f hf hn'
   |true=>
    obtain⟨c,hc⟩:=Option.isSome_iff_exists.mp (hn (x,kd) zmS (by simpa using hk))
    have hc':env.cells.lookup x=some c:=hc
    have hco:cellOf env x=pure c:=by unfold cellOf;rw[hc']
    simp only[if_true,hco,pure_bind,hc']
    exact ih ((x,c)::acc) f hf hn'
 simp only[closureFor]
 rw[main scope.names [] _ (fun x kd a=>rfl) h]
 rfl
theorem closL_mem{cells:List (Str×Addr)}:∀(names:List (Str×NameKind)) (acc:List (Str×Addr)) (p:Str×Addr),p∈closL cells names acc→p∈acc∨(cells.lookup p.1=some p.2∧(p.1,NameKind.free)∈names)
 |[],acc,p,h=> .inl h
 |(x,kd)::rs,acc,p,h=>by
  unfold closL at h
  split at h
  ·rename_i hk
   have hk':kd= .free:=by simpa using hk
   subst hk'
   split at h
   ·rename_i c hc
    rcases closL_mem rs _ p h with h|⟨h1,h2⟩
    ·rcases zcon.mp h with rfl|h
     ·exact .inr ⟨hc,zmS⟩
     ·exact .inl h
    ·exact .inr ⟨h1,zmC _ h2⟩
   ·rcases closL_mem rs _ p h with h|⟨h1,h2⟩
    ·exact .inl h
    ·exact .inr ⟨h1,zmC _ h2⟩
  ·rcases closL_mem rs _ p h with h|⟨h1,h2⟩
   ·exact .inl h
   ·exact .inr ⟨h1,zmC _ h2⟩
theorem closL_acc{cells:List (Str×Addr)}:∀(names:List (Str×NameKind)) (acc:List (Str×Addr)) (p:Str×Addr),p∈acc→p∈closL cells names acc
 |[],acc,p,h=>h
 |(x,kd)::rs,acc,p,h=>by
  unfold closL
  split
  ·split
   ·exact closL_acc rs _ p (zmC _ h)
   ·exact closL_acc rs _ p h
  ·exact closL_acc rs _ p h
theorem closL_has{cells:List (Str×Addr)}:∀(names:List (Str×NameKind)) (acc:List (Str×Addr)) (x:Str) (c:Addr),(x,NameKind.free)∈names→cells.lookup x=some c→(x,c)∈closL cells names acc
 |(y,kd)::rs,acc,x,c,h,hc=>by
  unfold closL
  rcases zcon.mp h with e|h
  ·cases e
   simp only[beq_self_eq_true,if_true,hc]
   exact closL_acc rs _ _ zmS
  ·split
   ·split
    ·exact closL_has rs _ x c h hc
    ·exact closL_has rs _ x c h hc
   ·exact closL_has rs _ x c h hc
theorem lookup_some_mem:∀{l:List (Str×Addr)} {x:Str} {c:Addr},(x,c)∈l→(l.lookup x).isSome=true
 |(y,b)::rs,x,c,h=>by
  rw[List.lookup_cons]
  cases e:(x==y) with
  |true=>rfl
  |false=>
   rcases zcon.mp h with h|h
   ·cases h;rw[beq_self_eq_true] at e;cases e
   ·exact lookup_some_mem h
theorem closL_lookup{cells:List (Str×Addr)}{names:List (Str×NameKind)}{x:Str}{c:Addr}(h:(x,NameKind.free)∈names)(hc:cells.lookup x=some c):(closL cells names []).lookup x=some c:=by
 obtain⟨c',h'⟩:=Option.isSome_iff_exists.mp (lookup_some_mem (closL_has (cells:=cells) names [] x c h hc))
 rcases closL_mem names [] _ (mem_of_lookup h') with h2|⟨h2,_⟩
 ·cases h2
 ·rw[hc] at h2;cases h2;exact h'
theorem closL_apart{cells:List (Str×Addr)}(ap:cells.Pairwise fun x y=>x.2≠y.2):∀(names:List (Str×NameKind)) (acc:List (Str×Addr)),(names.map (·.1)).Nodup→(∀p∈acc,cells.lookup p.1=some p.2∧p.1∉names.map (·.1))→(acc.Pairwise fun x y=>x.2≠y.2)→((closL cells names acc).Pairwise fun x y=>x.2≠y.2)
 |[],acc,_,_,h=>h
 |(x,kd)::rs,acc,hn,ha,h=>by
  have hn':(rs.map (·.1)).Nodup:=(znco.mp hn).2
  have hx:x∉rs.map (·.1):=(znco.mp hn).1
  have ha':∀p∈acc,cells.lookup p.1=some p.2∧p.1∉rs.map (·.1):=fun p hp=>⟨(ha p hp).1,fun hm=>(ha p hp).2 (zmC _ hm)⟩
  unfold closL
  split
  ·split
   ·rename_i c hc
    refine closL_apart ap rs _ hn' (fun p hp=> ?_) (List.pairwise_cons.mpr ⟨fun q hq e=> ?_,h⟩)
    ·rcases zcon.mp hp with rfl|hp
     ·exact⟨hc,hx⟩
     ·exact ha' p hp
    ·have e':c=q.2:=e
     have:=name_of_addr ap (mem_of_lookup hc) (e'▸mem_of_lookup (ha q hq).1)
     exact(ha q hq).2 (by rw[←this];exact zmS)
   ·exact closL_apart ap rs acc hn' ha' h
  ·exact closL_apart ap rs acc hn' ha' h
theorem map_lookup(c:Str→NameKind→Bool)(x:Str):∀names:List (Str×NameKind),(names.map fun(y,kd)=>if c y kd=true then (y,NameKind.cell) else (y,kd)).lookup x=(names.lookup x).map fun kd=>if c x kd=true then .cell else kd
 |[]=>rfl
 |(y,kd)::rs=>by
  have ih:=map_lookup c x rs
  rw[List.map_cons]
  have hf:(match ((y,kd):Str×NameKind) with|(y,kd)=>if c y kd=true then (y,NameKind.cell) else (y,kd))=(y,if c y kd=true then NameKind.cell else kd):=by
   show (if c y kd=true then (y,NameKind.cell) else (y,kd))=_
   split <;> rfl
  rw[hf,List.lookup_cons,List.lookup_cons]
  by_cases e:x=y
  ·subst e
   simp only[beq_self_eq_true,Option.map_some]
  ·have e':(x==y)=false:=by simpa using e
   simp only[e']
   exact ih
theorem ownSc_lookup(outer sc:Scope)(x:Str):(ownSc outer sc).names.lookup x=(sc.names.lookup x).map fun kd=>if (kd== .free&&outer.kind== .function&&outer.names.lookup x==some .cell)=true then .cell else kd:=
 map_lookup (fun x kd=>kd== .free&&outer.kind== .function&&outer.names.lookup x==some .cell) x sc.names
section
variable{C:Cx}{n:Nat}{r:Ev}{k:Bool}{A:Around}{env:Env}{Y W:List Addr}{l:Loc}{s s1 s' s'':Shared}{Z:Addr→Prop}
theorem Own.fresh{h h':Heap}(t:TabOk C h)(hP:∀a∈W,a≠C.P)(k:∀b o,h.get? b=some o→h'.get? b=some o)(hn:∀a∈W,h.get? a=none)(ho:∀a∈W,∃o,h'.get? a=some o):Own C W h':=by
 refine⟨hP,fun a ha hc=> ?_,ho⟩
 obtain⟨ps,h1,h2,h3⟩:=id t
 obtain⟨ps',pos,e1,e2⟩:=hc
 rw[k _ _ h1] at e1;cases e1
 obtain⟨o,ho'⟩:=t.code ⟨ps,pos,h1,e2⟩
 rw[hn a ha] at ho';cases ho'
theorem kpNew{I:Addr}{h4 h':Heap}{tk:Nat}{L:Addr}(x:KP C s s1)(t:TabOk C s.heap)(ht:s1.toks≤tk)(k4:∀b o,s1.heap.get? b=some o→h4.get? b=some o)(y:KL C I Z { s1 with heap:=h4,toks:=tk } s')
  (hI:s1.heap.get? I=none) (hZ:∀b,Z b→s1.heap.get? b=none) (hL:s1.heap.get? L=none) (hLc:¬CodeAt C s'.heap L) (hs:Heap.SameBut L s'.heap h'):KP C s { s' with heap:=h' }:=by
 obtain⟨h2,t2,rfl,l2,k2,e2,b2⟩:=y
 refine x.trans ⟨h',t2,rfl,znT ht l2,fun b o hb e=> ?_,?_⟩
 ·have hbL:b≠L:=fun e'=>by rw[e',hL] at e;cases e
  show h'.get? b=some o
  rw[hs.2 b hbL]
  exact k2 b o hb (fun z=>by rw[hZ b z] at e;cases e) (k4 b o e)
 ·have t1:=x.tab t
  have hLP:L≠C.P:=fun e=>by
   obtain⟨ps,h1,_⟩:=t1
   rw[e,h1] at hL;cases hL
  have a1:TabTo C s1.heap h2:=(TabTo.keeps k4).trans b2 fun _ b ⟨o,e⟩=>⟨o,k4 b o e⟩
  refine a1.trans (TabTo.one hLP hLc fun b o hb e=>by rw[hs.2 b hb];exact e) fun tt b ⟨o,e⟩=> ?_
  by_cases hb:b=C.P
  ·subst hb
   obtain⟨ps,h1,_⟩:=(a1 tt).1
   exact⟨_,h1⟩
  ·exact⟨o,k2 b o hb (fun z=>by rw[hZ b z] at e;cases e) (k4 b o e)⟩
theorem lookup_of_nodup:∀{names:List (Str×NameKind)} {x:Str} {kd:NameKind},(names.map (·.1)).Nodup→(x,kd)∈names→names.lookup x=some kd
 |(y,kd')::rs,x,kd,hn,h=>by
  rw[List.lookup_cons]
  rcases zcon.mp h with e|h
  ·cases e;simp
  ·have hx:x≠y:=fun e=>(znco.mp hn).1 (e▸zmap.mpr ⟨(x,kd),h,rfl⟩)
   have e':(x==y)=false:=by simpa using hx
   rw[e']
   exact lookup_of_nodup (znco.mp hn).2 h
theorem mem_of_lookup'{names:List (Str×NameKind)}{x:Str}{kd:NameKind}(h:names.lookup x=some kd):(x,kd)∈names:=by
 obtain⟨q,hq,h1,h2⟩:=mem_of_lookup_kind h
 rw[←h1,←h2];exact hq
def frameW(ce:Env):List Addr:=ce.locals::(ce.cells.map (·.2)).filter (fun a=>decide (ce.locals<a))
structure OkC(sc csc:Scope)(gens:List Comprehension):Prop where
 kind:csc.kind= .function
 nodup:(csc.names.map (·.1)).Nodup
 free:∀p∈csc.names,p.2= .free→sc.names.lookup p.1=some .cell∨sc.names.lookup p.1=some .free
 sync:∀g∈gens,g.is_async=0
 set:∀g∈gens,isSetE g.iter=false
 tgt:∀g∈gens,okT csc g.target=true
theorem okC{sc csc:Scope}{gens:List Comprehension}(h:okComp sc csc gens=true):OkC sc csc gens:=by
 unfold okComp at h
 simp only[Bool.and_eq_true,decide_eq_true_eq,List.all_eq_true,Bool.not_eq_true'] at h
 obtain⟨⟨⟨h1,h2⟩,h3⟩,h4⟩:=h
 exact⟨h1,h2,fun p hp=>h3 p hp,fun g hg=>(h4 g hg).1.1,fun g hg=>(h4 g hg).1.2,fun g hg=>(h4 g hg).2⟩
theorem comp_env{csc:Scope}{gens:List Comprehension}{ce:Env}{h4:Heap}{L:Addr}{b:Addr}(oc:OkC env.scope csc gens)(eo:EnvOk C k env)
  (he:ce={ newEnv csc L env.globals (cellsFrom (L+1) csc.names (closL env.cells csc.names [])) env.qual none .none (some env) b with scope:=relabel csc env }):
  EnvOk C k ce∧ce.scope=ownSc env.scope csc∧ce.locals=L∧ce.cells=cellsFrom (L+1) csc.names (closL env.cells csc.names [])∧(∀g∈gens,TgtOk ce (frameW ce) g.target):=by
 have hk:∀x,ce.kindOf x=(csc.names.lookup x).map fun kd=>if (kd== .free&&env.scope.kind== .function&&env.scope.names.lookup x==some .cell)=true then .cell else kd:=fun x=>by
  subst he;exact ownSc_lookup env.scope csc x
 have hcells:ce.cells=cellsFrom (L+1) csc.names (closL env.cells csc.names []):=by subst he;rfl
 have hloc:ce.locals=L:=by subst he;rfl
 refine⟨⟨?_,?_,?_,fun x hx=> ?_,fun hkk=> ?_⟩,by subst he;rfl,hloc,hcells,fun g hg x hx=> ?_⟩
 ·subst he;exact oc.kind
 ·subst he;exact eo.glob
 ·subst he;exact eo.bi
 ·rw[hcells]
  rw[hk x] at hx
  cases hl:csc.names.lookup x with
  |none=>rw[hl] at hx;rcases hx with hx|hx <;> cases hx
  |some kd=>
   rw[hl] at hx
   by_cases hc:kd= .cell
   ·subst hc;exact cells_isSome _ _ _ _ (.inl hl)
   ·have hf:kd= .free:=by
     rcases hx with hx|hx
     ·simp only[Option.map_some,Option.some.injEq] at hx
      split at hx
      ·rename_i hh;simp only[Bool.and_eq_true,beq_iff_eq] at hh;exact hh.1.1
      ·exact absurd hx hc
     ·simp only[Option.map_some,Option.some.injEq] at hx
      split at hx
      ·cases hx
      ·exact hx
    subst hf
    have hm:=mem_of_lookup' hl
    obtain⟨c,hcc⟩:=Option.isSome_iff_exists.mp (eo.cells x (oc.free _ hm rfl))
    refine cells_isSome _ _ _ _ (.inr ?_)
    rw[closL_lookup hm hcc];rfl
 ·subst he;exact eo.lam hkk
 ·have ht:=oc.tgt g hg
  have hx':csc.names.lookup x=some .local∨csc.names.lookup x=some .cell:=by
   generalize g.target=tt at hx ht
   unfold okT at ht
   split at ht
   ·simp[tgtNames] at hx;subst hx;exact of_decide_eq_true ht
   ·have ht:=of_decide_eq_true ht
    simp[tgtNames] at hx
    rcases hx with rfl|rfl
    ·exact ht.1
    ·exact ht.2.1
   ·cases ht
  have hkx:ce.kindOf x=csc.names.lookup x:=by
   rw[hk x]
   rcases hx' with e|e <;> rw[e] <;> rfl
  refine⟨by rw[hkx];exact hx',fun c hc hlc=> ?_⟩
  rw[hkx] at hc
  rw[hcells] at hlc
  obtain⟨c',h1,h2⟩:=cells_own csc.names (L+1) (closL env.cells csc.names []) x ⟨_,mem_of_lookup' hc,rfl,rfl⟩
  rw[hlc] at h2;cases h2
  refine zmC _ (zfil.mpr ⟨?_,?_⟩)
  ·rw[hcells];exact List.mem_map_of_mem (f:=(·.2)) (mem_of_lookup hlc)
  ·rw[hloc];exact decide_eq_true h1
end
section
variable{C:Cx}{n:Nat}{r:Ev}{k:Bool}{A:Around}{env:Env}{Y:List Addr}{l:Loc}{s1:Shared}
variable{DD I:Addr}{Acc:List Addr→Heap→List D→Prop}{emitD:Loc→Option D}{emit:Env→Sem Unit}{e:Expr}{gens:List Comprehension}{acc:Value}{csc:Scope}
theorem memSplit{a:Addr}{W:List Addr}(hm:a∈I::(W++DD::Y)):a∈I::DD::W∨a∈Y:=by
 rcases zcon.mp hm with e|hm
 ·exact .inl (by simp[e])
 ·rcases zapp.mp hm with hm|hm
  ·exact .inl (by simp[hm])
  ·rcases zcon.mp hm with e|hm
   ·exact .inl (by simp[e])
   ·exact .inr hm
theorem AccS.moreL(a:AccS DD Acc){h h':Heap}{a0:List D}:∀(Z:List Addr),Acc Y h a0→(∀b∈Z,h.get? b=none)→(∀b o,h.get? b=some o→h'.get? b=some o)→Acc (Z++Y) h' a0
 |[],x,_,hk=>a.frame Y h h' a0 x (fun o e=>hk _ o e) fun b o _ e=>hk b o e
 |z::Z,x,hz,hk=>by
  have y:=AccS.moreL a (h:=h) (h':=h) Z x (fun b hb=>hz b (zmC _ hb)) fun _ _ e=>e
  exact a.more (Z++Y) h h' a0 z y (hz z zmS) hk
theorem comp_run(S:SE C n r)(a1:AOk (n+1) A)(oc:OkC env.scope csc gens)(H:IsComp e gens acc emit)(as:AccS DD Acc)(em:∀ce:Env,ce.scope=ownSc env.scope csc→EmitOk C n k A ce DD Acc emitD (emit ce))
  (p:Pre C n k A env Y l s1) {h3:Heap} (k3:∀b o,s1.heap.get? b=some o→h3.get? b=some o) (hI:s1.heap.get? I=none) (hD:s1.heap.get? DD=none) (hID:I≠DD) (exD:∃o,h3.get? DD=some o)
  {its out:List D} (it:ItR C A (DD::I::Y) I its h3) (hacc:Acc (I::DD::Y) h3 []) (h:comp r k (ownSc env.scope csc) emitD gens (compLoc csc l) its=some out) (hlen:out.length≤lim) {b:Addr} {R:Addr→Result→Shared→Prop}
  (q:∀L h4 tk s' (Z:Addr→Prop),s1.toks≤tk→(∀b o,s1.heap.get? b=some o→h4.get? b=some o)→KL C I Z { s1 with heap:=h4,toks:=tk } s'→(∀b,Z b→s1.heap.get? b=none)→s1.heap.get? L=none→¬CodeAt C s'.heap L→L≠DD→(∃m,s'.heap.Ns L m)→Acc (L::Y) s'.heap out→R L (.ok .next) s'):
  wpAny C.M A (newFunctionEnv csc env.globals (closL env.cells csc.names []) [] env.qual none .none (some env) b) (fun cenv s4=>codeAny C.M A (.compStart e 0 (.ref I) acc { cenv with scope:=relabel csc env }) (R cenv.locals) s4) NE { s1 with heap:=h3 }:=by
 refine newEnv_sound oc.kind (fun x hx=>by cases hx) (fun x hx=> ?_) (fun q hq=> ?_) (closL_apart p.fm.apart csc.names [] oc.nodup (fun _ h=>by cases h) List.Pairwise.nil) fun env0 h4 tk he ht k34 fm0 _=> ?_
 ·have hm:=mem_of_lookup' hx
  obtain⟨c,hcc⟩:=Option.isSome_iff_exists.mp (p.eo.cells x (oc.free _ hm rfl))
  rw[closL_lookup hm hcc];rfl
 ·rcases closL_mem csc.names [] q hq with h|⟨h,_⟩
  ·cases h
  ·obtain⟨v,hv⟩:=p.fm.cl _ (mem_of_lookup h)
   exact⟨v,hv.keeps k3⟩
 ·generalize hL:h3.objs.size=L at he
  have hLn:h3.get? L=none:=hL▸newAddr h3
  have hfresh3:∀a,h3.get? a=none→s1.heap.get? a=none:=fun a ha=>none_of fun⟨o,e⟩=>by rw[k3 a o e] at ha;cases ha
  have k14:∀b o,s1.heap.get? b=some o→h4.get? b=some o:=fun b o e=>k34 b o (k3 b o e)
  generalize hce:({ env0 with scope:=relabel csc env }:Env)=ce
  obtain⟨eo,hsc,hloc,hcells,htg⟩:=comp_env (C:=C) (k:=k) (gens:=gens) (ce:=ce) (h4:=h4) (L:=L) (b:=b) oc p.eo (by rw[←hce,he])
  have fm:Frm ce h4:=by subst hce;exact⟨fm0.ns,fm0.cl,fm0.apart⟩
  have hL0:env0.locals=L:=by rw[he];rfl
  have wf:=cells_wf csc.names (h3.push (lstO [] 0)) (closL env.cells csc.names []) (fun q hq=>by
   rcases closL_mem csc.names [] q hq with h|⟨h,_⟩
   ·cases h
   ·obtain⟨v,hv⟩:=p.fm.cl _ (mem_of_lookup h)
    exact⟨v,(hv.keeps k3).keeps fun b o e=>zpO _ e⟩) (closL_apart p.fm.apart csc.names [] oc.nodup (fun _ h=>by cases h) List.Pairwise.nil)
  rw[Heap.size_push,hL] at wf
  have hsplit:∀q∈ce.cells,q.2∈Y∨(q.2∈frameW ce):=fun q hq=>by
   rcases wf.2.2 q (hcells▸hq) with h|h
   ·rcases closL_mem csc.names [] q h with h|⟨h,_⟩
    ·cases h
    ·exact .inl (p.hc _ (mem_of_lookup h))
   ·refine .inr (zmC _ (zfil.mpr ⟨List.mem_map_of_mem (f:=(·.2)) hq,?_⟩))
    rw[hloc];exact decide_eq_true h
  have hWn:∀a∈frameW ce,h3.get? a=none:=fun a ha=>by
   have hge:L≤a:=by
    rcases zcon.mp ha with e|ha
    ·rw[e,hloc]
     exact Nat.le_refl _
    ·have:=of_decide_eq_true (zfil.mp ha).2
     rw[hloc] at this
     exact Nat.le_of_lt this
   exact none_of fun⟨o,e⟩=>by
    have:=Heap.lt_size e
    rw[hL] at this
    exact absurd hge (Nat.not_le.mpr this)
  have hWe:∀a∈frameW ce,∃o,h4.get? a=some o:=fun a ha=>by
   rcases zcon.mp ha with e|ha
   ·obtain⟨m,o,es,ep,ho,_⟩:=fm.ns
    exact⟨o,e▸ho⟩
   ·obtain⟨q,hq,rfl⟩:=zmap.mp (zfil.mp ha).1
    obtain⟨v,o,ho,_⟩:=fm.cl q hq
    exact⟨o,ho⟩
  obtain⟨oi,hoi,_⟩:=it.obj
  obtain⟨od,hod⟩:=exD
  have hDW:DD∉frameW ce:=fun hm=>by rw[hWn DD hm] at hod;cases hod
  have hIW:I∉frameW ce:=fun hm=>by rw[hWn I hm] at hoi;cases hoi
  have hIY:I∉Y:=fun hm=>by obtain⟨o,ho⟩:=p.hYs I hm;rw[hI] at ho;cases ho
  have hDY:DD∉Y:=fun hm=>by obtain⟨o,ho⟩:=p.hYs DD hm;rw[hD] at ho;cases ho
  have hnew:∀a∈I::DD::frameW ce,s1.heap.get? a=none:=fun a ha=>by
   rcases zcon.mp ha with rfl|ha
   ·exact hI
   ·rcases zcon.mp ha with rfl|ha
    ·exact hD
    ·exact hfresh3 a (hWn a ha)
  have hex:∀a∈I::DD::frameW ce,∃o,h4.get? a=some o:=fun a ha=>by
   rcases zcon.mp ha with rfl|ha
   ·exact⟨oi,k34 _ _ hoi⟩
   ·rcases zcon.mp ha with rfl|ha
    ·exact⟨od,k34 _ _ hod⟩
    ·exact hWe a ha
  have hnP:∀a∈I::DD::frameW ce,a≠C.P:=fun a ha e=>by
   obtain⟨o,ho⟩:=p.hYs C.P p.hP
   rw[←e,hnew a ha] at ho;cases ho
  have ht1:s1.toks≤tk:=ht
  have kp:KP C s1 { s1 with heap:=h4,toks:=tk }:=KP.of ht1 k14
  have own:Own C (I::DD::frameW ce) h4:=Own.fresh p.gr.tab hnP k14 hnew hex
  have hview:∀a o,view s1.heap Y a=some o→view h4 (I::(frameW ce++DD::Y)) a=some o:=fun a o e=>by
   obtain⟨e,nn⟩:=view_get e
   refine view_of (k14 a o e) fun hm=> ?_
   have:a∈I::DD::frameW ce∨a∈Y:=memSplit hm
   rcases this with hm|hm
   ·rw[hnew a hm] at e;cases e
   ·exact nn hm
  have pre:Pre C n k A ce (I::(frameW ce++DD::Y)) (compLoc csc l) { s1 with heap:=h4,toks:=tk }:=by
   have p':=p.kp kp
   refine⟨p.bs,p.a,eo,p'.gr,by simp[p.hP],fun a ha=> ?_,fun a ha=> ?_,fm,fun q hq=> ?_,fun x d hx=> ?_⟩
   ·rcases memSplit ha with h|h
    ·exact none_of fun⟨o,ho⟩=>by
      have:=p.gr.keep _ o ho
      rw[hnew a h] at this;cases this
    ·exact p.hY a h
   ·rcases memSplit ha with h|h
    ·exact hex a h
    ·exact p'.hYs a h
   ·rcases hsplit q hq with h|h <;> simp[h]
   ·unfold compLoc at hx
    split at hx
    ·rename_i hf
     have hm:=mem_of_lookup' hf
     obtain⟨v,va,rv⟩:=p.loc x d hx
     refine⟨v,?_,Mine.R.mono hview rv⟩
     rcases va with ⟨hk,_⟩|⟨hk,c,hc,hv⟩
     ·have hk':env.scope.names.lookup x=some .local:=hk
      rcases oc.free _ hm rfl with h|h
      ·rw[h] at hk';cases hk'
      ·rw[h] at hk';cases hk'
     ·refine .inr ⟨?_,c,?_,hv.keeps k14⟩
      ·have hkx:ce.kindOf x=(ownSc env.scope csc).names.lookup x:=by
        show ce.scope.names.lookup x=_
        rw[hsc]
       rw[hkx,ownSc_lookup,hf]
       simp only[Option.map_some,Option.some.injEq]
       split
       ·exact .inl rfl
       ·exact .inr rfl
      ·rw[hcells,cells_lookup csc.names (L+1) _ x fun q hq e1 e2=> ?_]
       ·exact closL_lookup hm hc
       ·have:=lookup_of_nodup oc.nodup (show (x,NameKind.cell)∈csc.names by rw[←e1,←e2];exact hq)
        rw[hf] at this;cases this
    ·cases hx
  have st:LS C n k A ce (frameW ce) DD Acc (frameW ce++DD::Y) (compLoc csc l) I its [] { s1 with heap:=h4,toks:=tk }:=by
   refine⟨pre,by simp[p.hP],fun a ha=> ?_,fun hm=> ?_,fun q hq=> ?_,own,(it.more (Z:=frameW ce) hWn k34).perm fun b=> ?_,as.sub (frameW ce++I::DD::Y) _ _ _ (fun b hb=> ?_) (as.moreL (frameW ce) hacc hWn k34)⟩
   ·rcases zcon.mp ha with e|h
    ·simp[e]
    ·simp[h]
   ·rcases zapp.mp hm with h|h
    ·exact hIW h
    ·rcases zcon.mp h with h|h
     ·exact hID h
     ·exact hIY h
   ·rcases hsplit q hq with h|h <;> simp[h]
   ·simp only[List.mem_cons,List.mem_append]
    constructor
    ·rintro (h|h|h|h)
     ·exact .inr (.inr (.inl h))
     ·exact .inl h
     ·exact .inr (.inl h)
     ·exact .inr (.inr (.inr h))
    ·rintro (h|h|h|h)
     ·exact .inr (.inl h)
     ·exact .inr (.inr (.inl h))
     ·exact .inl h
     ·exact .inr (.inr (.inr h))
   ·simp only[List.mem_cons,List.mem_append] at hb ⊢
    rcases hb with h|h|h|h
    ·exact .inr (.inl h)
    ·exact .inl h
    ·exact .inr (.inr (.inl h))
    ·exact .inr (.inr (.inr h))
  have cl:CL C A ce (frameW ce) DD Acc gens:=⟨as,fun g hg=>⟨htg g hg,oc.set g hg⟩,zmS,hDW,fun q hq e=>by
   rcases hsplit q hq with h|h
   ·exact hDY (e▸h)
   ·exact hDW (e▸h)⟩
  have loop:codeAny C.M A (.compLoop e 0 (.ref I) acc ce) (R env0.locals) { s1 with heap:=h4,toks:=tk }:=by
   refine comp_sound S a1 H cl (em ce hsc) gens 0 (frameW ce++DD::Y) (compLoc csc l) I its out [] _ _ rfl (by rw[hsc];exact h) (by simpa using hlen) st fun s' kl p' ac=> ?_
   rw[hL0]
   refine q L h4 tk s' _ ht1 k14 kl (fun b hb=>hnew b hb) (hnew L (by simp[frameW,hloc])) ?_ (fun e=>hDW (by simp[frameW,hloc,e])) (hloc▸p'.fm.ns) ?_
   ·intro hc
    obtain⟨h5,t5,rfl,l5,k5,e5,b5⟩:=kl
    have hmL:L∈I::DD::frameW ce:=by simp[frameW,hloc]
    rcases (b5 pre.gr.tab).2 L hc with h|h
    ·exact own.code L hmL h
    ·obtain⟨o,ho⟩:=hex L hmL
     have h':h4.get? L=none:=h
     rw[h'] at ho;cases ho
   ·exact as.sub _ (L::Y) _ _ (fun b hb=>by rcases zcon.mp hb with e|hb;simp[frameW,hloc,e];simp[hb]) ac
  have hgne:∃g,gens[0]? =some g:=by
   cases gens with
   |nil=>cases h
   |cons g gs=>exact⟨g,rfl⟩
  obtain⟨g,hg⟩:=hgne
  have it4:ItR C A (DD::I::Y) I its h4:=it.keep (fun o e=>k34 _ _ e) fun b o _ e=>k34 b o e
  exact start_code H hg loop (self_sound it4 loop)
end
section
variable{C:Cx}{n:Nat}{r:Ev}{k:Bool}{A:Around}{env:Env}{Y:List Addr}{l:Loc}{s:Shared}
def AccL(C:Cx)(DD:Addr)(Y:List Addr)(h:Heap)(a0:List D):Prop:=∃vs m,h.get? DD=some (lstO vs m)∧RDs C h Y vs a0
theorem accL(C:Cx)(DD:Addr):AccS DD (AccL C DD):=
 ⟨fun Y h h' a0 ⟨vs,m,h1,h2⟩ hD hk=>⟨vs,m,hD _ h1,Rs.mono (view_keep hk) h2⟩,
  fun Y h h' a0 I ⟨vs,m,h1,h2⟩ hn hk=>⟨vs,m,hk _ _ h1,Rs.mono (view_more (Z:=[I]) (fun b o _ e=>hk b o e) fun b hb=>by simp at hb;subst hb;exact hn) h2⟩,
  fun Y Y' h a0 hs ⟨vs,m,h1,h2⟩=>⟨vs,m,h1,Rs.mono (view_sub hs) h2⟩⟩
theorem emitL(S:SE C n r){ce:Env}{sc:Scope}{DD:Addr}{elt:Expr}(hsc:ce.scope=sc):EmitOk C n k A ce DD (AccL C DD) (fun l'=>r.E k sc l' elt) (do let _←call (.builtin "list.append") [.ref DD,←eval elt ce]):=by
 intro Y l d s a0 Q hd p own hDY hacc hlen q
 subst hsc
 refine wpAny_bind (S.at p hd fun v s1 kp p1 rv=> ?_)
 obtain⟨vs,m,h1,h2⟩:=hacc
 have hDP:DD≠C.P:=own.ne DD (by simp)
 have h1':=kp.heap hDP h1
 have h2':=RDs.kp kp p.hP h2
 have hl:vs.length=a0.length:=h2.length
 have own1:=own.kw p.gr.tab (KP.kw kp (Z:=fun _=>False))
 refine wpAny_bind (wpAny_list_append_plain (items:=vs.toArray) ⟨m,h1'⟩ (fun h' hp hs=> ?_) (by
  have:lim=1000000:=rfl
  exact znT (by simp;omega:vs.toArray.size≤1000000) kD))
 obtain⟨m',hp⟩:=hp
 have kw:KW C (·=DD) s1 { s1 with heap:=h' }:=KW.one nL rfl hDP (own1.code DD (by simp)) (fun b o hb e=>by rw[hs.2 b hb];exact e) ⟨_,hp⟩
 have hZ:∀b,b=DD→b∈Y:=fun b e=>e▸hDY
 refine wpAny_pure (q _ ((KP.kw kp).trans kw) ⟨vs++[v],m',?_,?_⟩)
 ·have:(vs.toArray.push v)=(vs++[v]).toArray:=by simp
  rw[this] at hp
  exact hp
 ·exact Rs.append (RDs.kw kw p.hP hZ h2') (.cons (RD.kw kw p.hP hZ rv) .nil)
end
section
variable{K:Type}[DecidableEq K]{α:Type}
def updL(k:K)(v:α):List K→List α→List α
 |k'::ks,x::xs=>(if k'=k then v else x)::updL k v ks xs
 |_,_=>[]
theorem updL_length(k:K)(v:α):∀(ks:List K) (xs:List α),ks.length=xs.length→ks.length=(updL k v ks xs).length
 |[],[],_=>rfl
 |k'::ks,x::xs,h=>by
  unfold updL
  rw[List.length_cons,List.length_cons,updL_length k v ks xs (by simpa using h)]
theorem updL_zip(k:K)(v:α):∀(ks:List K) (xs:List α),ks.length=xs.length→(ks.zip xs).map (fun kv=>if kv.1=k then (kv.1,v) else kv)=ks.zip (updL k v ks xs)
 |[],[],_=>rfl
 |k'::ks,x::xs,h=>by
  unfold updL
  rw[List.zip_cons_cons,List.zip_cons_cons,List.map_cons,updL_zip k v ks xs (by simpa using h)]
  by_cases e:k'=k
  ·simp[e]
  ·simp[e]
theorem zip_any(k:K):∀(ks:List K) (xs:List α),ks.length=xs.length→((ks.zip xs).any fun kv=>kv.1=k)=decide (k∈ks)
 |[],[],_=>rfl
 |k'::ks,x::xs,h=>by
  rw[List.zip_cons_cons,List.any_cons,zip_any k ks xs (by simpa using h)]
  by_cases e:k'=k
  ·simp[e]
  ·have:k≠k':=fun h=>e h.symm
   simp[e,this]
theorem zip_lookup[BEq K][LawfulBEq K](k:K):∀(ks:List K) (xs:List α),ks.length=xs.length→((ks.zip xs).lookup k).isSome=decide (k∈ks)
 |[],[],_=>rfl
 |k'::ks,x::xs,h=>by
  rw[List.zip_cons_cons,List.lookup_cons]
  by_cases e:k=k'
  ·subst e;simp
  ·have e':(k==k')=false:=by simpa using e
   rw[e']
   simp only[List.mem_cons,e,false_or]
   exact zip_lookup k ks xs (by simpa using h)
theorem Rs.upd{prog:Program}{w:World}{H:HV}{k:K}{v:Value}{d:D}(hv:R prog w H v d):∀{ks:List K} {vs:List Value} {ds:List D},ks.length=vs.length→Rs prog w H vs ds→Rs prog w H (updL k v ks vs) (updL k d ks ds)
 |[],[],_,_,.nil=> .nil
 |k'::ks,x::vs,_,h,.cons r rs=>by
  unfold updL
  refine .cons ?_ (Rs.upd hv (by simpa using h) rs)
  split
  ·exact hv
  ·exact r
end
theorem dictS_snoc(k:Str)(v:D):∀(a0:List D) (acc m:List (Str×D)),dictS? acc a0=some m→dictS? acc (a0++[.tup [.str k,v]])=some (storedS m k v)
 |[],acc,m,h=>by cases h;rfl
 |d::a0,acc,m,h=>by
  unfold dictS? at h
  split at h
  ·rename_i e;cases e
  ·rename_i e;cases e
   exact dictS_snoc k v a0 _ m h
  ·cases h
section
variable{C:Cx}{n:Nat}{r:Ev}{k:Bool}{A:Around}
def AccDS(C:Cx)(DD:Addr)(Y:List Addr)(h:Heap)(a0:List D):Prop:=∃(o:Obj) (ks:List Str) (vs:List Value) (ds:List D),h.get? DD=some o∧o.IsDictOf (strKind C.prog C.w) (ks.zip vs)∧ks.length=vs.length∧RDs C h Y vs ds∧dictS? [] a0=some (ks.zip ds)∧ks.length≤a0.length
theorem accDS(C:Cx)(DD:Addr):AccS DD (AccDS C DD):=
 ⟨fun Y h h' a0 ⟨o,ks,vs,ds,h1,h2,h3,h4,h5⟩ hD hk=>⟨o,ks,vs,ds,hD _ h1,h2,h3,Rs.mono (view_keep hk) h4,h5⟩,
  fun Y h h' a0 I ⟨o,ks,vs,ds,h1,h2,h3,h4,h5⟩ hn hk=>⟨o,ks,vs,ds,hk _ _ h1,h2,h3,Rs.mono (view_more (Z:=[I]) (fun b o _ e=>hk b o e) fun b hb=>by simp at hb;subst hb;exact hn) h4,h5⟩,
  fun Y Y' h a0 hs ⟨o,ks,vs,ds,h1,h2,h3,h4,h5⟩=>⟨o,ks,vs,ds,h1,h2,h3,Rs.mono (view_sub hs) h4,h5⟩⟩
theorem emitDS(S:SE C n r){ce:Env}{sc:Scope}{DD:Addr}{ke ve:Expr}{P:Pos}(hsc:ce.scope=sc):EmitOk C n k A ce DD (AccDS C DD) (emitS r k sc ke ve) (do
   let kv←eval ke ce
   let vv←holding [kv] (eval ve ce)
   standAt P
   holding [kv,vv] (dictSet DD kv vv)):=by
 intro Y l d s a0 Q hd p own hDY hacc hlen q
 subst hsc
 unfold emitS at hd
 obtain⟨a,h1,hd⟩:=zbs.mp hd
 obtain⟨b,h2,hd⟩:=zbs.mp hd
 split at hd
 ·rename_i x _
  cases hd
  refine wpAny_bind (S.at p h1 fun kv s1 kp1 p1 rk=>wpAny_bind (wpAny_holding (S.at p1 h2 fun vv s2 kp2 p2 rv=>wpAny_bind (wpAny_standAt (wpAny_holding ?_)))))
  obtain⟨t,rfl⟩:∃t,kv= .str x t:=by cases rk;exact⟨_,rfl⟩
  obtain⟨o,ks,vs,ds,g1,g2,g3,g4,g5,g6⟩:=hacc
  have kp:=kp1.trans kp2
  have hDP:DD≠C.P:=own.ne DD (by simp)
  have g1':=kp.heap hDP g1
  have g4':=RDs.kp kp p.hP g4
  have own1:=own.kw p.gr.tab (KP.kw kp (Z:=fun _=>False))
  have hlim:lim=1000000:=rfl
  refine wpAny_dictSet_pairs (strKind_is _ _ x t) (Heap.dictOf_iff.mpr ⟨o,g1',g2⟩) (fun h' hD hs=> ?_) (sz (by rw[List.length_zip];omega))
  obtain⟨o',ho',hd'⟩:=Heap.dictOf_iff.mp hD
  have kw:KW C (·=DD) s2 { s2 with heap:=h',toks:=s2.toks+1 }:=KW.one (Nat.le_succ _) rfl hDP (own1.code DD (by simp)) (fun b o hb e=>by rw[hs.2 b hb];exact e) ⟨_,ho'⟩
  have hZ:∀b,b=DD→b∈Y:=fun b e=>e▸hDY
  have rv':=RD.kw kw p.hP hZ rv
  have g4'':=RDs.kw kw p.hP hZ g4'
  have hds:ks.length=ds.length:=g3.trans g4.length
  have hsn:=dictS_snoc x b a0 [] _ g5
  refine q _ ((KP.kw kp).trans kw) ?_
  unfold stored at hd'
  unfold storedS at hsn
  rw[zip_any x ks vs g3] at hd'
  rw[zip_lookup x ks ds hds] at hsn
  by_cases hm:x∈ks
  ·simp only[hm,decide_true,if_true] at hd' hsn
   rw[updL_zip x vv ks vs g3] at hd'
   rw[updL_zip x b ks ds hds] at hsn
   exact⟨o',ks,_,_,ho',hd',updL_length x vv ks vs g3,Rs.upd rv' g3 g4'',hsn,by simp;omega⟩
  ·simp only[hm,decide_false,Bool.false_eq_true,if_false] at hd' hsn
   refine⟨o',ks++[x],vs++[vv],ds++[b],ho',?_,by simp[g3],Rs.append g4'' (.cons rv' .nil),?_,by simp;omega⟩
   ·rw[List.zip_append g3];exact hd'
   ·rw[List.zip_append hds];exact hsn
 ·cases hd
end
theorem dictI_snoc(k:Int)(v:D):∀(a0:List D) (acc m:List (Int×D)),dictI? acc a0=some m→dictI? acc (a0++[.tup [.int k,v]])=some (storedI m k v)
 |[],acc,m,h=>by cases h;rfl
 |d::a0,acc,m,h=>by
  unfold dictI? at h
  split at h
  ·rename_i e;cases e
  ·rename_i e;cases e
   exact dictI_snoc k v a0 _ m h
  ·cases h
section
variable{C:Cx}{n:Nat}{r:Ev}{k:Bool}{A:Around}
def AccDI(C:Cx)(DD:Addr)(Y:List Addr)(h:Heap)(a0:List D):Prop:=∃(o:Obj) (ks:List Int) (vs:List Value) (ds:List D),h.get? DD=some o∧o.IsDictOf (intKind C.prog C.w) (ks.zip vs)∧ks.length=vs.length∧RDs C h Y vs ds∧dictI? [] a0=some (ks.zip ds)∧ks.length≤a0.length
theorem accDI(C:Cx)(DD:Addr):AccS DD (AccDI C DD):=
 ⟨fun Y h h' a0 ⟨o,ks,vs,ds,h1,h2,h3,h4,h5⟩ hD hk=>⟨o,ks,vs,ds,hD _ h1,h2,h3,Rs.mono (view_keep hk) h4,h5⟩,
  fun Y h h' a0 I ⟨o,ks,vs,ds,h1,h2,h3,h4,h5⟩ hn hk=>⟨o,ks,vs,ds,hk _ _ h1,h2,h3,Rs.mono (view_more (Z:=[I]) (fun b o _ e=>hk b o e) fun b hb=>by simp at hb;subst hb;exact hn) h4,h5⟩,
  fun Y Y' h a0 hs ⟨o,ks,vs,ds,h1,h2,h3,h4,h5⟩=>⟨o,ks,vs,ds,h1,h2,h3,Rs.mono (view_sub hs) h4,h5⟩⟩
theorem emitDI(S:SE C n r){ce:Env}{sc:Scope}{DD:Addr}{ke ve:Expr}{P:Pos}(hsc:ce.scope=sc):EmitOk C n k A ce DD (AccDI C DD) (emitI r k sc ke ve) (do
   let kv←eval ke ce
   let vv←holding [kv] (eval ve ce)
   standAt P
   holding [kv,vv] (dictSet DD kv vv)):=by
 intro Y l d s a0 Q hd p own hDY hacc hlen q
 subst hsc
 unfold emitI at hd
 obtain⟨a,h1,hd⟩:=zbs.mp hd
 obtain⟨b,h2,hd⟩:=zbs.mp hd
 split at hd
 ·rename_i x _
  cases hd
  refine wpAny_bind (S.at p h1 fun kv s1 kp1 p1 rk=>wpAny_bind (wpAny_holding (S.at p1 h2 fun vv s2 kp2 p2 rv=>wpAny_bind (wpAny_standAt (wpAny_holding ?_)))))
  obtain⟨t,rfl⟩:∃t,kv= .int x t:=by cases rk;exact⟨_,rfl⟩
  obtain⟨o,ks,vs,ds,g1,g2,g3,g4,g5,g6⟩:=hacc
  have kp:=kp1.trans kp2
  have hDP:DD≠C.P:=own.ne DD (by simp)
  have g1':=kp.heap hDP g1
  have g4':=RDs.kp kp p.hP g4
  have own1:=own.kw p.gr.tab (KP.kw kp (Z:=fun _=>False))
  have hlim:lim=1000000:=rfl
  refine wpAny_dictSet_pairs (intKind_is _ _ x t) (Heap.dictOf_iff.mpr ⟨o,g1',g2⟩) (fun h' hD hs=> ?_) (sz (by rw[List.length_zip];omega))
  obtain⟨o',ho',hd'⟩:=Heap.dictOf_iff.mp hD
  have kw:KW C (·=DD) s2 { s2 with heap:=h',toks:=s2.toks+1 }:=KW.one (Nat.le_succ _) rfl hDP (own1.code DD (by simp)) (fun b o hb e=>by rw[hs.2 b hb];exact e) ⟨_,ho'⟩
  have hZ:∀b,b=DD→b∈Y:=fun b e=>e▸hDY
  have rv':=RD.kw kw p.hP hZ rv
  have g4'':=RDs.kw kw p.hP hZ g4'
  have hds:ks.length=ds.length:=g3.trans g4.length
  have hsn:=dictI_snoc x b a0 [] _ g5
  refine q _ ((KP.kw kp).trans kw) ?_
  unfold stored at hd'
  unfold storedI at hsn
  rw[zip_any x ks vs g3] at hd'
  rw[zip_lookup x ks ds hds] at hsn
  by_cases hm:x∈ks
  ·simp only[hm,decide_true,if_true] at hd' hsn
   rw[updL_zip x vv ks vs g3] at hd'
   rw[updL_zip x b ks ds hds] at hsn
   exact⟨o',ks,_,_,ho',hd',updL_length x vv ks vs g3,Rs.upd rv' g3 g4'',hsn,by simp;omega⟩
  ·simp only[hm,decide_false,Bool.false_eq_true,if_false] at hd' hsn
   refine⟨o',ks++[x],vs++[vv],ds++[b],ho',?_,by simp[g3],Rs.append g4'' (.cons rv' .nil),?_,by simp;omega⟩
   ·rw[List.zip_append g3];exact hd'
   ·rw[List.zip_append hds];exact hsn
 ·cases hd
end
section
variable{C:Cx}{n:Nat}{r:Ev}{k:Bool}{A:Around}{env:Env}{Y:List Addr}{l:Loc}{s:Shared}
end
section
variable{C:Cx}{n:Nat}{r:Ev}{k:Bool}{A:Around}{env:Env}{Y:List Addr}{l:Loc}{s:Shared}
end
section
variable{C:Cx}{n:Nat}{r:Ev}{k:Bool}{A:Around}{env:Env}{Y W:List Addr}{l:Loc}{s s' s'':Shared}{Z Z':Addr→Prop}
theorem KW.newOff{L:Addr}{h':Heap}{tk:Nat}(x:KW C Z s s')(t:TabOk C s.heap)(hL:s.heap.get? L=none)(hLc:¬CodeAt C s'.heap L)(ht:s'.toks≤tk)(hs:∀b o,b≠L→s'.heap.get? b=some o→h'.get? b=some o):KW C Z s { s' with heap:=h',toks:=tk }:=by
 have hLP:L≠C.P:=fun e=>by
  obtain⟨ps,h1,_⟩:=t
  rw[e,h1] at hL;cases hL
 exact x.lastNew hL (KL.one ht hLP hLc hs) fun b e=> .inl e
theorem KP.newOff{L:Addr}{h':Heap}(x:KP C s s')(t:TabOk C s.heap)(hL:s.heap.get? L=none)(hLc:¬CodeAt C s'.heap L)(hs:Heap.SameBut L s'.heap h'):KP C s { s' with heap:=h' }:=by
 have hLP:L≠C.P:=fun e=>by
  obtain⟨ps,h1,_⟩:=t
  rw[e,h1] at hL;cases hL
 have x':=x
 obtain⟨h2,t2,rfl,l2,k2,b2⟩:=x
 refine⟨h',t2,rfl,l2,fun b o hb e=> ?_,b2.trans (TabTo.one hLP hLc fun b o hb e=>by rw[hs.2 b hb];exact e) fun tt b hb=>x'.some tt hb⟩
 have hbL:b≠L:=fun e'=>by rw[e',hL] at e;cases e
 rw[hs.2 b hbL]
 exact k2 b o hb e
theorem KP.of_kw(x:KW C (fun _=>False) s s'):KP C s s':=by
 obtain⟨h1,t1,rfl,l1,k1,e1,b1⟩:=x
 exact⟨h1,t1,rfl,l1,fun b o hb e=>k1 b o hb (fun f=>f) e,b1⟩
theorem Pre.moreKP{L:Addr}(p:Pre C n k A env Y l s)(x:KP C s s')(hn:s.heap.get? L=none)(hI:∃o,s'.heap.get? L=some o):Pre C n k A env (L::Y) l s':=by
 have p1:Pre C n k A env Y l s':=p.kp x
 refine⟨p.bs,p.a,p.eo,p1.gr,zmC _ p.hP,fun a ha=> ?_,fun a ha=> ?_,p1.fm,fun q hq=>zmC _ (p.hc q hq),fun y d e=> ?_⟩
 ·rcases zcon.mp ha with rfl|ha
  ·exact none_of fun⟨o,ho⟩=>by rw[p.gr.keep _ o ho] at hn;cases hn
  ·exact p.hY a ha
 ·rcases zcon.mp ha with rfl|ha
  ·exact hI
  ·exact p1.hYs a ha
 ·obtain⟨v,a,rv⟩:=p.loc y d e
  refine⟨v,a.kp p.gr.tab x,Mine.R.mono (fun a o e=> ?_) rv⟩
  obtain⟨e,nn⟩:=view_get e
  refine view_of (x.heap (fun h=>nn (h▸p.hP)) e) fun hm=> ?_
  rcases zcon.mp hm with rfl|hm
  ·rw[hn] at e;cases e
  ·exact nn hm
theorem assign2{B:Around}{x:Str}{v:Value}{d:D}{l:Loc}{Q:Unit→Shared→Prop}(p:Pre C n k A env Y l s)(o:Own C W s.heap)(hx:env.kindOf x=some .local∨env.kindOf x=some .cell)(hW:env.locals∈W)
  (hWc:∀c,env.kindOf x=some .cell→env.cells.lookup x=some c→c∈W) (hWY:∀a∈W,a∈Y) (hv:RD C s.heap Y v d)
  (q:∀s',KW C (·∈W) s s'→Pre C n k A env Y (setL l x d) s'→VarAt env s'.heap x v→(∀y u,y≠x→VarAt env s.heap y u→VarAt env s'.heap y u)→Q () s'):
  wpAny C.M B (storeName env x v) Q NE s:=by
 refine store_sound p.eo.kind p.eo.cells p.fm hx fun h' tk a ht ha hs fm' hv' hk'=> ?_
 have haW:a∈W:=by
  rcases ha with rfl|⟨h1,h2⟩
  ·exact hW
  ·exact hWc a h1 h2
 have hlt:∃o,h'.get? a=some o:=by
  rcases ha with rfl|⟨h1,h2⟩
  ·obtain⟨m,o,es,ep,ho,_⟩:=fm'.ns
   exact⟨o,ho⟩
  ·obtain⟨v,o,ho,_⟩:=fm'.cl _ (mem_of_lookup h2)
   exact⟨o,ho⟩
 have kw:KW C (·∈W) s { s with heap:=h',toks:=tk }:=KW.one ht haW (o.ne a haW) (o.code a haW) (fun b o hb e=>by rw[hs.2 b hb];exact e) hlt
 refine q _ kw ⟨p.bs,p.a,p.eo,p.gr.kw p.bs kw fun b z=>p.hY b (hWY b z),p.hP,p.hY,fun a ha=>kw.exs p.gr.tab (p.hYs a ha),fm',p.hc,fun y d' hy=> ?_⟩ hv' hk'
 unfold setL at hy
 split at hy
 ·rename_i e;subst e;cases hy
  exact⟨v,hv',hv.kw kw p.hP hWY⟩
 ·rename_i e
  obtain⟨u,hu,ru⟩:=p.loc y d' hy
  exact⟨u,hk' y u e hu,ru.kw kw p.hP hWY⟩
theorem VarAt.same{L:Addr}{h h':Heap}{x:Str}{v:Value}(a:VarAt env h x v)(hl:env.locals≠L)(hc:∀q∈env.cells,q.2≠L)(hs:Heap.SameBut L h h'):VarAt env h' x v:=by
 rcases a with ⟨hk,m,hn,hm⟩|⟨hk,c,hcl,hv⟩
 ·exact .inl ⟨hk,m,hn.sameBut hs hl,hm⟩
 ·exact .inr ⟨hk,c,hcl,hv.sameBut hs (hc _ (mem_of_lookup hcl))⟩
structure CKind(C:Cx)(n:Nat)(k:Bool)(A:Around)(sc csc:Scope)(e:Expr)(gens:List Comprehension)(newAcc:Sem Value)(emitD:Loc→Option D)(out:List D)(dd:D)
  (o0:Obj) (AccF:Addr→List Addr→Heap→List D→Prop) (emit:Addr→Env→Sem Unit):Prop where
 cl:clausesOf e=gens
 is:∀DD,IsComp e gens (.ref DD) (emit DD)
 acc:∀DD,AccS DD (AccF DD)
 em:∀DD ce,ce.scope=ownSc sc csc→EmitOk C n k A ce DD (AccF DD) emitD (emit DD ce)
 new:∀(s:Shared) (Q:Value→Shared→Prop),Q (.ref s.heap.objs.size) { s with heap:=s.heap.push o0 }→wpAny C.M A newAcc Q NE s
 live:o0.isFreed=false
 nil:∀h Y DD,h.get? DD=some o0→AccF DD Y h []
 fin:∀h Y DD,AccF DD Y h out→DD∉Y→DD≠sysModules→RD C h Y (.ref DD) dd
variable{csc:Scope}{e:Expr}{g:Comprehension}{gs:List Comprehension}{newAcc:Sem Value}{emitD:Loc→Option D}{its out:List D}{d dd:D}{o0:Obj}{AccF:Addr→List Addr→Heap→List D→Prop}{emit:Addr→Env→Sem Unit}
theorem comp_core{pos:Pos}{use:Option (Value→Sem Unit)}{Q:Value→Shared→Prop}(S:SE C n r)(a1:AOk (n+1) A)(K:CKind C n k A env.scope csc e (g::gs) newAcc emitD out dd o0 AccF emit)(p:Pre C n k A env Y l s)
  (h1:r.E k env.scope l g.iter=some d) (h2:iterD d=some its) (ok:okComp env.scope csc (g::gs)=true) (h:comp r k (ownSc env.scope csc) emitD (g::gs) (compLoc csc l) its=some out) (hlen:out.length≤lim)
  (q:∀DD L s',KP C s s'→s.heap.get? L=none→¬CodeAt C s'.heap L→(∃m,s'.heap.Ns L m)→RD C s'.heap (L::Y) (.ref DD) dd→compPost C.M A NE use Q (.ref DD) L (.ok .next) s'):
  wpAny C.M A (comprehension e csc env pos newAcc false (eval g.iter env) use) Q NE s:=by
 have oc:=okC ok
 refine wpAny_comprehension_free (g:=g) (gs:=gs) K.cl (notFolded (oc.set g zmS) env) (closureFor_eq fun q hq hf=>p.eo.cells q.1 (oc.free q hq hf)) oc.kind (fun x hx hl=>lookup_of_nodup oc.nodup (hl▸hx)) ?_
 refine S.at p h1 fun v s1 kp1 p1 rv=> ?_
 refine iter_sound p1.a.handled p1.lt rv h2 fun h' hk it=> ?_
 refine K.new _ _ ?_
 obtain⟨oi,hoi,_⟩:=it.obj
 have hlt:s1.heap.objs.size<h'.objs.size:=Heap.lt_size hoi
 have hn:s1.heap.get? s1.heap.objs.size=none:=newAddr _
 have hD':h'.get? h'.objs.size=none:=newAddr _
 have hD:s1.heap.get? h'.objs.size=none:=none_of fun⟨o,e⟩=>by rw[hk _ o e] at hD';cases hD'
 have it':ItR C A (h'.objs.size::s1.heap.objs.size::Y) s1.heap.objs.size its (h'.push o0):=it.more (Z:=[h'.objs.size]) (fun b hb=>by simp at hb;subst hb;exact hD') fun b o e=>zpO _ e
 have hod:(h'.push o0).get? h'.objs.size=some o0:=Heap.get?_push_size _ K.live
 refine comp_run (DD:=h'.objs.size) (I:=s1.heap.objs.size) (Acc:=AccF h'.objs.size) S a1 oc (K.is h'.objs.size) (K.acc _) (fun ce hsc=>K.em _ ce hsc) p1 (fun b o e=>zpO _ (hk b o e)) hn hD (Nat.ne_of_lt hlt) ⟨_,hod⟩ it' (K.nil _ _ _ hod) h hlen fun L h4 tk s' Z ht k4 kl hZ hL hLc hLD hns hac=> ?_
 have kp:KP C s s':=kpNew kp1 p.gr.tab ht k4 kl hn hZ hL hLc (Heap.SameBut.refl ..)
 have hDY:h'.objs.size∉L::Y:=fun hm=>by
  rcases zcon.mp hm with e|hm
  ·exact hLD e.symm
  ·obtain⟨o,e⟩:=p1.hYs _ hm;rw[hD] at e;cases e
 have hLs:s.heap.get? L=none:=none_of fun ho=>by
  obtain⟨o,e⟩:=kp1.some p.gr.tab ho
  rw[hL] at e;cases e
 refine q _ L s' kp hLs hLc hns (K.fin _ _ _ hac hDY fun e=> ?_)
 obtain⟨o,ho⟩:=Option.isSome_iff_exists.mp p.bs.sys
 have:=p1.gr.keep _ o ho
 rw[←e,hD] at this;cases this
theorem RD.off{L DD:Addr}{h h5:Heap}(hs:Heap.SameBut L h h5)(x:RD C h (L::Y) (.ref DD) dd):RD C h5 Y (.ref DD) dd:=
 Mine.R.mono (fun a o e=>by
  obtain⟨e,nn⟩:=view_get e
  refine view_of ?_ fun hm=>nn (zmC _ hm)
  rw[hs.2 a fun e'=>nn (by simp[e'])];exact e) x
theorem comp_none{pos:Pos}{Q:Value→Shared→Prop}(S:SE C n r)(a1:AOk (n+1) A)(K:CKind C n k A env.scope csc e (g::gs) newAcc emitD out dd o0 AccF emit)(p:Pre C n k A env Y l s)
  (h1:r.E k env.scope l g.iter=some d) (h2:iterD d=some its) (ok:okComp env.scope csc (g::gs)=true) (h:comp r k (ownSc env.scope csc) emitD (g::gs) (compLoc csc l) its=some out) (hlen:out.length≤lim)
  (q:∀v s',KP C s s'→RD C s'.heap Y v dd→Q v s'):
  wpAny C.M A (comprehension e csc env pos newAcc false (eval g.iter env) none) Q NE s:=
 comp_core S a1 K p h1 h2 ok h hlen fun DD L s' kp hL hLc ⟨m,hns⟩ rd=>⟨m,hns,fun h5 hs=>q _ _ (kp.newOff p.gr.tab hL hLc hs) (rd.off hs)⟩
theorem comp_use{pos py:Pos}{y:Str}{Q:Unit→Shared→Prop}(S:SE C n r)(a1:AOk (n+1) A)(K:CKind C n k A env.scope csc e (g::gs) newAcc emitD out dd o0 AccF emit)(p:Pre C n k A env Y l s)
  (h1:r.E k env.scope l g.iter=some d) (h2:iterD d=some its) (ok:okComp env.scope csc (g::gs)=true) (h:comp r k (ownSc env.scope csc) emitD (g::gs) (compLoc csc l) its=some out) (hlen:out.length≤lim)
  (o:Own C W s.heap) (hy:env.kindOf y=some .local) (hW:env.locals∈W) (hWY:∀a∈W,a∈Y)
  (q:∀s',KW C (·∈W) s s'→Pre C n k A env Y (setL l y dd) s'→(∀z u,z≠y→VarAt env s.heap z u→VarAt env s'.heap z u)→Q () s'):
  wpAny C.M A (do let _←comprehension e csc env pos newAcc false (eval g.iter env) (some (assign (.Name y py) env));pure ()) Q NE s:=by
 refine wpAny_bind (wpAny_mono (comp_core (Q:=fun _ s'=>KW C (·∈W) s s'∧Pre C n k A env Y (setL l y dd) s'∧(∀z u,z≠y→VarAt env s.heap z u→VarAt env s'.heap z u)) S a1 K p h1 h2 ok h hlen fun DD L s' kp hL hLc ⟨m,hns⟩ rd=> ?_) (fun _ s' hq=>wpAny_pure (q s' hq.1 hq.2.1 hq.2.2)) fun _ _ x=>x.elim)
 show wpAny C.M A (assign (.Name y py) env (.ref DD)) _ NE s'
 have hLe:∃o,s'.heap.get? L=some o:=by
  obtain⟨o,es,ep,ho,_⟩:=hns;exact⟨o,ho⟩
 have p1:Pre C n k A env (L::Y) l s':=p.moreKP kp hL hLe
 have o1:Own C W s'.heap:=o.kw p.gr.tab (KP.kw kp (Z:=fun _=>False))
 have hLW:L∉W:=fun hm=>by obtain⟨oo,e⟩:=o.ex L hm;rw[hL] at e;cases e
 have hLl:env.locals≠L:=fun e=>hLW (e▸hW)
 have hLc':∀q∈env.cells,q.2≠L:=fun q hq e=>by
  obtain⟨v,oo,ho,_⟩:=p.fm.cl q hq
  rw[e,hL] at ho;cases ho
 refine wpAny_assign_Name (assign2 p1 o1 (.inl hy) hW (fun c hc=>by rw[hy] at hc;cases hc) (fun a ha=>zmC _ (hWY a ha)) rd fun s2 kw2 p2 _ hk2=> ?_)
 have hns2:s2.heap.Ns L m:=hns.at fun o e=>kw2.heap (tab_no_ns p1.gr.tab hns) hLW e
 have hLc2:¬CodeAt C s2.heap L:=kw2.code p1.gr.tab hLe hLc
 refine⟨m,hns2,fun h5 hs=> ?_⟩
 have kwA:KW C (·∈W) s { s2 with heap:=h5 }:=((KP.kw kp).trans kw2).newOff (tk:=s2.toks) p.gr.tab hL hLc2 nL fun b o hb e=>by rw[hs.2 b hb];exact e
 refine⟨kwA,?_,fun z u hz hv=>(hk2 z u hz (hv.kp p.gr.tab kp)).same hLl hLc' hs⟩
 have hLe2:∃o,h5.get? L=some o∨True:=⟨lstO [] 0,.inr trivial⟩
 have kl:KL C L (·=L) s2 { s2 with heap:=h5 }:=KL.one (tk:=s2.toks) nL (tab_no_ns p1.gr.tab hns) hLc2 fun b o hb e=>by rw[hs.2 b hb];exact e
 exact p2.last kl p.hP (fun hm=>by obtain⟨oo,e⟩:=p.hYs L hm;rw[hL] at e;cases e) p.hc hLl
end
section
variable{C:Cx}{n:Nat}{r:Ev}{k:Bool}{A:Around}{env:Env}{Y W:List Addr}{l:Loc}{s s' s'':Shared}
variable{sc csc:Scope}{elt ke ve:Expr}{gens:List Comprehension}{pos:Pos}{out:List D}
theorem kindL(S:SE C n r)(ha:∀g∈gens,g.is_async=0):CKind C n k A sc csc (.ListComp elt gens csc pos) gens (newList []) (fun l'=>r.E k (ownSc sc csc) l' elt) out (.list out) (lstO [] 0) (AccL C)
  (fun DD ce=>do let _←call (.builtin "list.append") [.ref DD,←eval elt ce]) where
 cl:=rfl
 is:=fun DD=>isComp_list ha
 acc:=fun DD=>accL C DD
 em:=fun DD ce hsc=>emitL S hsc
 new:=fun s Q h=>wpAny_newList h
 live:=rfl
 nil:=fun h Y DD ho=>⟨[],0,ho,.nil⟩
 fin:=fun h Y DD ⟨vs,m,ho,rs⟩ hY _=> .list (view_of ho hY) rs
theorem kindDS(S:SE C n r)(ha:∀g∈gens,g.is_async=0){m0:List (Str×D)}(hm0:dictS? [] out=some m0):CKind C n k A sc csc (.DictComp ke ve gens csc pos) gens newDict (emitS r k (ownSc sc csc) ke ve) out (.dictS m0) { cls:= .type "dict",data:= .dict #[] } (AccDS C)
  (fun DD ce=>do
   let kv←eval ke ce
   let vv←holding [kv] (eval ve ce)
   standAt { ke.pos with endLine:=ve.pos.endLine,endCol:=ve.pos.endCol }
   holding [kv,vv] (dictSet DD kv vv)) where
 cl:=rfl
 is:=fun DD=>isComp_dict ha
 acc:=fun DD=>accDS C DD
 em:=fun DD ce hsc=>emitDS S hsc
 new:=fun s Q h=>wpAny_newObj_type h
 live:=rfl
 nil:=fun h Y DD ho=>⟨_,[],[],[],ho,by
  obtain⟨od,hod,hodd⟩:=Heap.dictOf_iff.mp (Heap.DictOf.new (knd:=strKind C.prog C.w) h)
  rw[Heap.get?_push_size _ rfl] at hod
  cases hod;exact hodd,rfl,.nil,rfl,Nat.le_refl _⟩
 fin:=fun h Y DD ⟨o,ks,vs,ds,ho,hio,hl,rs,hds,_⟩ hY hs=>by
  rw[hm0] at hds;cases hds
  exact .dictS (view_of ho hY) hio hl rs hs
theorem kindDI(S:SE C n r)(ha:∀g∈gens,g.is_async=0){m0:List (Int×D)}(hm0:dictI? [] out=some m0):CKind C n k A sc csc (.DictComp ke ve gens csc pos) gens newDict (emitI r k (ownSc sc csc) ke ve) out (.dictI m0) { cls:= .type "dict",data:= .dict #[] } (AccDI C)
  (fun DD ce=>do
   let kv←eval ke ce
   let vv←holding [kv] (eval ve ce)
   standAt { ke.pos with endLine:=ve.pos.endLine,endCol:=ve.pos.endCol }
   holding [kv,vv] (dictSet DD kv vv)) where
 cl:=rfl
 is:=fun DD=>isComp_dict ha
 acc:=fun DD=>accDI C DD
 em:=fun DD ce hsc=>emitDI S hsc
 new:=fun s Q h=>wpAny_newObj_type h
 live:=rfl
 nil:=fun h Y DD ho=>⟨_,[],[],[],ho,by
  obtain⟨od,hod,hodd⟩:=Heap.dictOf_iff.mp (Heap.DictOf.new (knd:=intKind C.prog C.w) h)
  rw[Heap.get?_push_size _ rfl] at hod
  cases hod;exact hodd,rfl,.nil,rfl,Nat.le_refl _⟩
 fin:=fun h Y DD ⟨o,ks,vs,ds,ho,hio,hl,rs,hds,_⟩ hY hs=>by
  rw[hm0] at hds;cases hds
  exact .dictI (view_of ho hY) hio hl rs hs
def isCompE:Expr→Bool
 | .ListComp .. =>true
 | .DictComp .. =>true
 | .SetComp .. =>true
 |_=>false
def SU(C:Cx)(n:Nat)(r:Ev):Prop:=∀(k:Bool) (A:Around) (env:Env) (Y W:List Addr) (l:Loc) (e:Expr) (d:D) (y:Str) (py:Pos) (s:Shared) (Q:Unit→Shared→Prop),
 Pre C n k A env Y l s→isCompE e=true→Own C W s.heap→env.kindOf y=some .local→env.locals∈W→(∀a∈W,a∈Y)→r.E k env.scope l e=some d→
 (∀s',KW C (·∈W) s s'→Pre C n k A env Y (setL l y d) s'→(∀z u,z≠y→VarAt env s.heap z u→VarAt env s'.heap z u)→Q () s')→wpAny C.M A (evalThenUse e env (assign (.Name y py) env)) Q NE s
def SF(C:Cx)(n:Nat)(r:Ev):Prop:=∀(k:Bool) (A:Around) (env:Env) (Y:List Addr) (l:Loc) (e:Expr) (ds:List D) (s:Shared) (Q:Value→Shared→Prop),
 Pre C n k A env Y l s→freshList e=true→r.E k env.scope l e=some (.list ds)→
 (∀a vs s',KP C s s'→s.heap.get? a=none→s'.heap.get? a=some (lstO vs 0)→¬CodeAt C s'.heap a→RDs C s'.heap (a::Y) vs ds→Q (.ref a) s')→wpAny C.M A (eval e env) Q NE s
theorem SU_step{fns:List (Str×Fn)}{glob:List (Str×D)}(S:SE C n r):SU C (n+1) ⟨stepE fns glob r,fun k=>stepS r k n⟩:=by
 intro k A env Y W l e d y py s Q p hc o hy hW hWY h q
 have p':=p.mono (Nat.le_succ n)
 have a1:=p.a
 have q':∀s',KW C (·∈W) s s'→Pre C n k A env Y (setL l y d) s'→(∀z u,z≠y→VarAt env s.heap z u→VarAt env s'.heap z u)→Q () s':=fun s' kw p2 hk=>q s' kw ⟨p2.bs,p.a,p2.eo,p2.gr,p2.hP,p2.hY,p2.hYs,p2.fm,p2.hc,p2.loc⟩ hk
 match e,hc with
 | .ListComp elt gens csc pos,_=>
   match gens with
   |[]=>cases h
   |g::gs=>
    obtain⟨its,h1,h⟩:=zbs.mp (show Option.bind ((r.E k env.scope l g.iter).bind iterD) _=some d from h)
    obtain⟨d1,h1,h2⟩:=zbs.mp h1
    split at h
    ·rename_i ok
     obtain⟨out,h3,h⟩:=zbs.mp h
     split at h
     ·rename_i hlen
      cases h
      have oc:=okC ok
      have hfa:firstAsync (g::gs)=false:=by
       have h0:=oc.sync g zmS
       cases g;simp only at h0;subst h0;rfl
      have hfi:firstIter (g::gs) env=eval g.iter env:=by cases g;rfl
      rw[evalThenUse,hfa,hfi]
      exact comp_use S a1 (kindL S fun g hg=>oc.sync g hg) p' h1 h2 ok h3 hlen o hy hW hWY q'
     ·cases h
    ·cases h
 | .SetComp elt gens csc pos,_=>cases h
 | .DictComp ke ve gens csc pos,_=>
   match gens with
   |[]=>cases h
   |_::_::_=>cases h
   |[g]=>
    obtain⟨its,h1,h⟩:=zbs.mp (show Option.bind ((r.E k env.scope l g.iter).bind iterD) _=some d from h)
    obtain⟨d1,h1,h2⟩:=zbs.mp h1
    split at h
    ·rename_i ok
     have oc:=okC ok
     have hfa:firstAsync [g]=false:=by
      have h0:=oc.sync g zmS
      cases g;simp only at h0;subst h0;rfl
     have hfi:firstIter [g] env=eval g.iter env:=by cases g;rfl
     rw[evalThenUse,hfa,hfi]
     split at h
     ·rename_i ps h3
      split at h
      ·rename_i hlen
       obtain⟨m0,hm,rfl⟩:=Option.map_eq_some_iff.mp h
       exact comp_use S a1 (kindDS S (fun g hg=>oc.sync g hg) hm) p' h1 h2 ok h3 hlen o hy hW hWY q'
      ·cases h
     ·obtain⟨ps,h3,h⟩:=zbs.mp h
      split at h
      ·rename_i hlen
       obtain⟨m0,hm,rfl⟩:=Option.map_eq_some_iff.mp h
       exact comp_use S a1 (kindDI S (fun g hg=>oc.sync g hg) hm) p' h1 h2 ok h3 hlen o hy hW hWY q'
      ·cases h
    ·cases h
end
abbrev olA(OL:List (Str×Addr)):List Addr:=OL.map (·.2)
abbrev ZO(OL:List (Str×Addr))(env:Env):Addr→Prop:=fun b=>b∈olA OL++frameW env
section
variable{C:Cx}{n:Nat}{r:Ev}{k:Bool}{A:Around}{env:Env}{Y W:List Addr}{OL N:List (Str×Addr)}{l l':LocB}{s s' s'' s1:Shared}{Z Z':Addr→Prop}
theorem KW.transNew(x:KW C Z s s')(y:KW C Z' s' s'')(h:∀b,Z' b→Z b∨s.heap.get? b=none):KW C Z s s'':=by
 have x':=x
 obtain⟨h1,t1,rfl,l1,k1,e1,b1⟩:=x
 obtain⟨h2,t2,rfl,l2,k2,e2,b2⟩:=y
 refine⟨h2,t2,rfl,znT l1 l2,fun b o hb hz e=>k2 b o hb (fun z=> ?_) (k1 b o hb hz e),fun b hb h=>e2 b hb (e1 b hb h),b1.trans b2 fun t b h=>x'.exs t h⟩
 rcases h b z with h|h
 ·exact hz h
 ·rw[h] at e;cases e
structure FS(C:Cx)(n:Nat)(k:Bool)(A:Around)(env:Env)(Y:List Addr)(OL:List (Str×Addr))(l:LocB)(s:Shared):Prop where
 pre:Pre C n k A env (olA OL++Y) (purL l) s
 hP:C.P∈Y
 cY:∀p∈env.cells,p.2∈Y
 own:Own C (olA OL++frameW env) s.heap
 wY:∀a∈frameW env,a∈Y
 nY:∀p∈OL,p.2∉Y
 ap:OL.Pairwise fun p q=>p.2≠q.2
 cw:∀x c,env.kindOf x=some .cell→env.cells.lookup x=some c→c∈frameW env
 lst:∀x ds,l x=some (.own ds)→∃a vs m,(x,a)∈OL∧VarAt env s.heap x (.ref a)∧s.heap.get? a=some (lstO vs m)∧RDs C s.heap (olA OL++Y) vs ds
theorem ZO.sub{b:Addr}(wY:∀a∈frameW env,a∈Y)(h:ZO OL env b):b∈olA OL++Y:=by
 rcases zapp.mp h with h|h
 ·exact zmL _ h
 ·exact zmr _ (wY b h)
def ExcPost(C:Cx)(env:Env)(Z:Addr→Prop)(Y:List Addr)(c:Str)(d:D)(s:Shared)(E:Value→Shared→Prop):Prop:=
 ∀e t cl v s',KW C Z s s'→s.heap.get? e=none→C.mg c=some (.ref cl)→s'.heap.get? e=some { cls:= .ref cl,data:= .fields #[.ref t,.none,.none,.none,.bool false,.none] }→
  s.heap.get? t=none→s'.heap.get? t=some { cls:= .type "tuple",data:= .seq #[v] }→RD C s'.heap Y v d→(∃m,s'.heap.Ns env.locals m)→E (.ref e) s'
def NextPost(C:Cx)(n:Nat)(k:Bool)(A:Around)(env:Env)(Y:List Addr)(OL:List (Str×Addr))(l':LocB)(s:Shared)(Q:Shared→Prop):Prop:=
 ∀s' N,(∀p∈N,s.heap.get? p.2=none)→KW C (ZO OL env) s s'→FS C n k A env Y (N++OL) l' s'→Q s'
def Post(C:Cx)(n:Nat)(k:Bool)(A:Around)(env:Env)(Y:List Addr)(OL:List (Str×Addr))(f:Fl)(l':LocB)(s:Shared)(Q:Flow→Shared→Prop)(E:Value→Shared→Prop):Prop:=
 match f with
 | .next=>NextPost C n k A env Y OL l' s (Q .next)
 | .brk=>NextPost C n k A env Y OL l' s (Q .brk)
 | .cont=>NextPost C n k A env Y OL l' s (Q .cont)
 | .ret d=>∀v s',KW C (ZO OL env) s s'→RD C s'.heap Y v d→Q (.ret v) s'
 | .exc c d=>ExcPost C env (ZO OL env) Y c d s E
def SS(C:Cx)(n:Nat)(r:Ev):Prop:=∀(k:Bool) (A:Around) (env:Env) (Y:List Addr) (OL:List (Str×Addr)) (l:LocB) (st:Stmt) (f:Fl) (l':LocB) (s:Shared) (Q:Flow→Shared→Prop) (E:Value→Shared→Prop),
 FS C n k A env Y OL l s→r.S k env.scope l st=some (f,l')→Post C n k A env Y OL f l' s Q E→wpAny C.M A (exec st env) Q E s
structure Snd(C:Cx)(n:Nat)(r:Ev):Prop where
 E:SE C n r
 U:SU C n r
 F:SF C n r
 S:SS C n r
theorem newIn{Z:Addr→Prop}(x:KW C Z s s')(t:TabOk C s.heap){a:Addr}(h:s'.heap.get? a=none):s.heap.get? a=none:=none_of fun ho=>by
 obtain⟨o,e⟩:=x.exs t ho
 rw[h] at e;cases e
theorem zoNew(hN:∀p∈N,s.heap.get? p.2=none)(b:Addr)(h:ZO (N++OL) env b):ZO OL env b∨s.heap.get? b=none:=by
 rcases zapp.mp h with h|h
 ·rw[olA,List.map_append] at h
  rcases zapp.mp h with h|h
  ·obtain⟨p,hp,rfl⟩:=zmap.mp h
   exact .inr (hN p hp)
  ·exact .inl (zmL _ h)
 ·exact .inl (zmr _ h)
theorem NextPost.step{Q:Shared→Prop}(t:TabOk C s.heap)(hN:∀p∈N,s.heap.get? p.2=none)(kw:KW C (ZO OL env) s s1)(h:NextPost C n k A env Y OL l' s Q):NextPost C n k A env Y (N++OL) l' s1 Q:=by
 intro s' N' hN' kw' fs
 refine h s' (N'++N) (fun p hp=> ?_) (kw.transNew kw' (zoNew hN)) (by rw[List.append_assoc];exact fs)
 rcases zapp.mp hp with hp|hp
 ·exact newIn kw t (hN' p hp)
 ·exact hN p hp
theorem Post.step{f:Fl}{Q:Flow→Shared→Prop}{E:Value→Shared→Prop}(t:TabOk C s.heap)(hN:∀p∈N,s.heap.get? p.2=none)(kw:KW C (ZO OL env) s s1)(h:Post C n k A env Y OL f l' s Q E):Post C n k A env Y (N++OL) f l' s1 Q E:=by
 cases f with
 |next=>exact NextPost.step t hN kw h
 |brk=>exact NextPost.step t hN kw h
 |cont=>exact NextPost.step t hN kw h
 |ret d=>exact fun v s' kw' rd=>h v s' (kw.transNew kw' (zoNew hN)) rd
 |exc c d=>exact fun e tt cl v s' kw' he hc ho ht hto rd hns=>h e tt cl v s' (kw.transNew kw' (zoNew hN)) (newIn kw t he) hc ho (newIn kw t ht) hto rd hns
theorem FS.kp(fs:FS C n k A env Y OL l s)(x:KP C s s'):FS C n k A env Y OL l s' where
 pre:=fs.pre.kp x
 hP:=fs.hP
 cY:=fs.cY
 own:=fs.own.kw fs.pre.gr.tab (KP.kw x (Z:=fun _=>False))
 wY:=fs.wY
 nY:=fs.nY
 ap:=fs.ap
 cw:=fs.cw
 lst:=fun y ds hy=>by
  obtain⟨a,vs,m,h1,h2,h3,h4⟩:=fs.lst y ds hy
  have hPP:a≠C.P:=fs.own.ne a (zmL _ (List.mem_map_of_mem (f:=(·.2)) h1))
  exact⟨a,vs,m,h1,h2.kp fs.pre.gr.tab x,x.heap hPP h3,h4.kp x fs.pre.hP⟩
theorem Post.kp{f:Fl}{Q:Flow→Shared→Prop}{E:Value→Shared→Prop}(t:TabOk C s.heap)(kp:KP C s s1)(h:Post C n k A env Y OL f l' s Q E):Post C n k A env Y OL f l' s1 Q E:=
 Post.step (N:=[]) t (fun p hp=>by cases hp) kp.kw h
theorem FS.all(fs:FS C n k A env Y OL l s):Pre C n k A env Y (allL l) s where
 bs:=fs.pre.bs
 a:=fs.pre.a
 eo:=fs.pre.eo
 gr:=fs.pre.gr
 hP:=fs.hP
 hY:=fun a ha=>fs.pre.hY a (zmr _ ha)
 hYs:=fun a ha=>fs.pre.hYs a (zmr _ ha)
 fm:=fs.pre.fm
 hc:=fs.cY
 loc:=fun x d hx=>by
  have hs:∀a o,view s.heap (olA OL++Y) a=some o→view s.heap Y a=some o:=view_sub fun a ha=>zmr _ ha
  unfold allL at hx
  split at hx
  ·rename_i d' e
   cases hx
   obtain⟨v,a,rv⟩:=fs.pre.loc x d (by unfold purL;rw[e])
   exact⟨v,a,Mine.R.mono hs rv⟩
  ·rename_i ds e
   cases hx
   obtain⟨a,vs,m,h1,h2,h3,h4⟩:=fs.lst x ds e
   exact⟨_,h2,.list (view_of h3 (fs.nY _ h1)) (Rs.mono hs h4)⟩
  ·cases hx
theorem Ssl_sound(S:SS C n r):∀(ss:List Stmt) (OL:List (Str×Addr)) (l l':LocB) (f:Fl) (s:Shared) (Q:Flow→Shared→Prop) (E:Value→Shared→Prop),FS C n k A env Y OL l s→Ssl r k env.scope l ss=some (f,l')→Post C n k A env Y OL f l' s Q E→wpAny C.M A (execs ss env) Q E s
 |[],OL,l,l',f,s,Q,E,fs,h,q=>by
  unfold Ssl at h
  cases h
  exact wpAny_execs_nil (q s [] (fun p hp=>by cases hp) (KW.refl s) fs)
 |st::ss,OL,l,l',f,s,Q,E,fs,h,q=>by
  unfold Ssl at h
  obtain⟨⟨f1,l1⟩,h1,h2⟩:=zbs.mp h
  refine wpAny_execs_cons ?_
  have t:=fs.pre.gr.tab
  cases f1 with
  |next=>
   refine S k A env Y OL l st .next l1 s _ E fs h1 fun s1 N hN kw fs1=> ?_
   exact Ssl_sound S ss (N++OL) l1 l' f s1 Q E fs1 h2 (q.step t hN kw)
  |brk=>cases h2;exact S k A env Y OL l st .brk l' s _ E fs h1 q
  |cont=>cases h2;exact S k A env Y OL l st .cont l' s _ E fs h1 q
  |ret d=>cases h2;exact S k A env Y OL l st (.ret d) l' s _ E fs h1 q
  |exc c d=>cases h2;exact S k A env Y OL l st (.exc c d) l' s _ E fs h1 q
end
section
variable{C:Cx}{n:Nat}{r:Ev}{k:Bool}{A:Around}{env:Env}{Y W:List Addr}{OL N:List (Str×Addr)}{l l':LocB}{s s' s'' s1:Shared}{Z Z':Addr→Prop}
theorem FS.lo{m:Nat}(fs:FS C n k A env Y OL l s)(h:m≤n):FS C m k A env Y OL l s:=⟨fs.pre.mono h,fs.hP,fs.cY,fs.own,fs.wY,fs.nY,fs.ap,fs.cw,fs.lst⟩
theorem FS.hi{m:Nat}(fs:FS C m k A env Y OL l s)(a:AOk n A):FS C n k A env Y OL l s:=
 ⟨⟨fs.pre.bs,a,fs.pre.eo,fs.pre.gr,fs.pre.hP,fs.pre.hY,fs.pre.hYs,fs.pre.fm,fs.pre.hc,fs.pre.loc⟩,fs.hP,fs.cY,fs.own,fs.wY,fs.nY,fs.ap,fs.cw,fs.lst⟩
theorem NextPost.lo{m:Nat}{Q:Shared→Prop}(a:AOk n A)(h:NextPost C n k A env Y OL l' s Q):NextPost C m k A env Y OL l' s Q:=fun s' N hN kw fs=>h s' N hN kw (fs.hi a)
theorem Post.lo{m:Nat}{f:Fl}{Q:Flow→Shared→Prop}{E:Value→Shared→Prop}(a:AOk n A)(h:Post C n k A env Y OL f l' s Q E):Post C m k A env Y OL f l' s Q E:=by
 cases f with
 |next=>exact NextPost.lo a h
 |brk=>exact NextPost.lo a h
 |cont=>exact NextPost.lo a h
 |ret d=>exact h
 |exc c d=>exact h
theorem FS.frame_notOwn(fs:FS C n k A env Y OL l s){x:Str}{a:Addr}(h:(x,a)∈OL):a∉frameW env:=fun hm=>fs.nY _ h (fs.wY a hm)
theorem FS.assign{B:Around}{x:Str}{v:Value}{d:D}{Q:Unit→Shared→Prop}(fs:FS C n k A env Y OL l s)(hx:env.kindOf x=some .local∨env.kindOf x=some .cell)(hv:RD C s.heap (olA OL++Y) v d)
  (q:∀s',KW C (ZO OL env) s s'→FS C n k A env Y OL (setL l x (.val d)) s'→Q () s'):wpAny C.M B (storeName env x v) Q NE s:=by
 have own:Own C (frameW env) s.heap:=fs.own.sub fun a ha=>zmr _ ha
 have hwY:∀a∈frameW env,a∈olA OL++Y:=fun a ha=>zmr _ (fs.wY a ha)
 refine assign2 fs.pre own hx zmS (fun c h1 h2=>fs.cw x c h1 h2) hwY hv fun s' kw p2 hv2 hk=> ?_
 have kwz:KW C (ZO OL env) s s':=kw.mono fun b hb=>zmr _ hb
 refine q s' kwz ⟨p2.weak fun y dy e=> ?_,fs.hP,fs.cY,fs.own.kw fs.pre.gr.tab kw,fs.wY,fs.nY,fs.ap,fs.cw,fun y ds hy=> ?_⟩
 ·unfold purL setL at e
  unfold setL
  by_cases h:y=x
  ·subst h;simp at e;subst e;simp
  ·rw[if_neg h] at e ⊢;exact e
 ·unfold setL at hy
  split at hy
  ·cases hy
  ·rename_i hne
   obtain⟨a,vs,m,h1,h2,h3,h4⟩:=fs.lst y ds hy
   have hn:=fs.frame_notOwn h1
   have hPP:a≠C.P:=fs.own.ne a (zmL _ (List.mem_map_of_mem (f:=(·.2)) h1))
   exact⟨a,vs,m,h1,hk y _ hne h2,kw.heap hPP hn h3,h4.kw kw fs.pre.hP hwY⟩
theorem FS.assignOwn{x:Str}{a:Addr}{vs:List Value}{m:Nat}{ds:List D}{Q:Unit→Shared→Prop}(fs:FS C n k A env Y OL l s)(kp:KP C s s1)(hx:env.kindOf x=some .local∨env.kindOf x=some .cell)
  (hn:s.heap.get? a=none) (ho:s1.heap.get? a=some (lstO vs m)) (hc:¬CodeAt C s1.heap a) (hr:RDs C s1.heap (a::(olA OL++Y)) vs ds)
  (q:∀s',KW C (ZO OL env) s s'→FS C n k A env Y ((x,a)::OL) (setL l x (.own ds)) s'→Q () s'):wpAny C.M A (storeName env x (.ref a)) Q NE s1:=by
 have haY:a∉olA OL++Y:=fun hm=>by obtain⟨o,e⟩:=fs.pre.hYs a hm;rw[hn] at e;cases e
 have p1:Pre C n k A env (a::(olA OL++Y)) (purL l) s1:=fs.pre.moreKP kp hn ⟨_,ho⟩
 have fs1:=fs.kp kp
 have own:Own C (frameW env) s1.heap:=fs1.own.sub fun a ha=>zmr _ ha
 have haW:a∉frameW env:=fun hm=>haY (zmr _ (fs.wY a hm))
 have hwY:∀b∈frameW env,b∈a::(olA OL++Y):=fun b hb=>zmC _ (zmr _ (fs.wY b hb))
 have haP:a≠C.P:=fun e=>by obtain⟨o,ho'⟩:=fs.pre.hYs C.P fs.pre.hP;rw[←e,hn] at ho';cases ho'
 refine assign2 (d:= .opq (.ref a)) p1 own hx zmS (fun c h1 h2=>fs.cw x c h1 h2) hwY (.opq _) fun s' kw p2 hv2 hk=> ?_
 have kwz:KW C (ZO OL env) s s':=(KP.kw kp (Z:=ZO OL env)).trans (kw.mono fun b hb=>zmr _ hb)
 have ho2:s'.heap.get? a=some (lstO vs m):=kw.heap haP haW ho
 refine q s' kwz ⟨p2.weak fun y dy e=> ?_,fs.hP,fs.cY,⟨fun b hb=> ?_,fun b hb=> ?_,fun b hb=> ?_⟩,fs.wY,fun p hp=> ?_,List.pairwise_cons.mpr ⟨fun p hp e=> ?_,fs.ap⟩,fs.cw,fun y dy hy=> ?_⟩
 ·unfold purL setL at e
  unfold setL
  by_cases h:y=x
  ·subst h;simp at e
  ·rw[if_neg h] at e ⊢;exact e
 ·rcases zcon.mp hb with rfl|hb
  ·exact haP
  ·exact fs1.own.ne b hb
 ·rcases zcon.mp hb with rfl|hb
  ·exact kw.code fs1.pre.gr.tab ⟨_,ho⟩ hc
  ·exact kw.code fs1.pre.gr.tab (fs1.own.ex b hb) (fs1.own.code b hb)
 ·rcases zcon.mp hb with rfl|hb
  ·exact⟨_,ho2⟩
  ·exact kw.exs fs1.pre.gr.tab (fs1.own.ex b hb)
 ·rcases zcon.mp hp with rfl|hp
  ·exact fun hm=>haY (zmr _ hm)
  ·exact fs.nY p hp
 ·exact haY (zmL _ (by have e':a=p.2:=e;rw[e'];exact List.mem_map_of_mem (f:=(·.2)) hp))
 ·unfold setL at hy
  split at hy
  ·rename_i e;subst e;cases hy
   exact⟨a,vs,m,zmS,hv2,ho2,RDs.kw kw (zmC _ fs.pre.hP) hwY hr⟩
  ·rename_i hne
   obtain⟨b,ws,m',h1,h2,h3,h4⟩:=fs.lst y dy hy
   have hb:=fs.frame_notOwn h1
   have hPP:b≠C.P:=fs.own.ne b (zmL _ (List.mem_map_of_mem (f:=(·.2)) h1))
   refine⟨b,ws,m',zmC _ h1,hk y _ hne (h2.kp fs.pre.gr.tab kp),kw.heap hPP hb (kp.heap hPP h3),?_⟩
   have hv:RDs C s1.heap (a::(olA OL++Y)) ws dy:=Rs.mono (fun z o e=>by
    obtain⟨e,nn⟩:=view_get e
    refine view_of (kp.heap (fun e'=>nn (e'▸fs.pre.hP)) e) fun hm=> ?_
    rcases zcon.mp hm with rfl|hm
    ·rw[hn] at e;cases e
    ·exact nn hm) h4
   exact RDs.kw kw (zmC _ fs.pre.hP) hwY hv
theorem FS.grow{x:Str}{a:Addr}{us:List Value}{m':Nat}{es:List D}{h':Heap}(fs:FS C n k A env Y OL l s)(ha:(x,a)∈OL)(hv:VarAt env s.heap x (.ref a))(ho:h'.get? a=some (lstO us m'))(hr:RDs C s.heap (olA OL++Y) us es)(hs:Heap.SameBut a s.heap h')(tk:Nat)(ht:s.toks≤tk):
  KW C (ZO OL env) s { s with heap:=h',toks:=tk }∧FS C n k A env Y OL (setL l x (.own es)) { s with heap:=h',toks:=tk }:=by
 have hm:a∈olA OL:=List.mem_map_of_mem (f:=(·.2)) ha
 have hmO:a∈olA OL++frameW env:=zmL _ hm
 have haP:=fs.own.ne a hmO
 have kw:KW C (·=a) s { s with heap:=h',toks:=tk }:=KW.one ht rfl haP (fs.own.code a hmO) (fun b o hb e=>by rw[hs.2 b hb];exact e) ⟨_,ho⟩
 have hZ:∀b,b=a→b∈olA OL++Y:=fun b e=>e▸zmL _ hm
 have haW:=fs.frame_notOwn ha
 have hal:¬env.locals=a:=fun e=>haW (e▸zmS)
 have hac:∀p∈env.cells,¬p.2=a:=fun p hp e=>fs.nY _ ha (e▸fs.cY p hp)
 refine⟨kw.mono fun b e=>e▸hmO,(fs.pre.kw kw hZ hal hac).weak fun y dy e=> ?_,fs.hP,fs.cY,fs.own.kw fs.pre.gr.tab kw,fs.wY,fs.nY,fs.ap,fs.cw,fun y dy hy=> ?_⟩
 ·unfold purL setL at e
  unfold purL
  by_cases h:y=x
  ·subst h;simp at e
  ·rw[if_neg h] at e;exact e
 ·unfold setL at hy
  split at hy
  ·rename_i e;subst e;cases hy
   exact⟨a,us,m',ha,hv.kw fs.pre.gr.tab kw hal hac,ho,RDs.kw kw fs.pre.hP hZ hr⟩
  ·rename_i hne
   obtain⟨b,ws2,m2,h1,h2,h3,h4⟩:=fs.lst y dy hy
   have hba:b≠a:=by
    have key:∀(OL:List (Str×Addr)),OL.Pairwise (fun p q=>p.2≠q.2)→(y,b)∈OL→(x,a)∈OL→b=a→False:=by
     intro OL
     induction OL with
     |nil=>intro _ h;cases h
     |cons q qs ih=>
      intro hp h1 h2 e
      obtain⟨hq,hp⟩:=List.pairwise_cons.mp hp
      rcases zcon.mp h1 with e1|h1'
      ·rcases zcon.mp h2 with e2|h2'
       ·rw[←e1] at e2;cases e2;exact hne rfl
       ·subst e1;exact hq (x,a) h2' e
      ·rcases zcon.mp h2 with e2|h2'
       ·subst e2;exact hq (y,b) h1' e.symm
       ·exact ih hp h1' h2' e
    exact fun e=>key OL fs.ap h1 ha e
   have hPP:b≠C.P:=fs.own.ne b (zmL _ (List.mem_map_of_mem (f:=(·.2)) h1))
   exact⟨b,ws2,m2,h1,h2.kw fs.pre.gr.tab kw hal hac,kw.heap hPP hba h3,RDs.kw kw fs.pre.hP hZ h4⟩
theorem lst_method{x:Str}{a:Addr}{vs:List Value}{m:Nat}{xp ap cp:Pos}{meth:Str}{id:String}{arg:Expr}{Q:Value→Shared→Prop}{l:Loc}(p:Pre C n k A env Y l s)(hv:VarAt env s.heap x (.ref a))(ho:s.heap.get? a=some (lstO vs m))
  (hline:(ap.endLine==cp.line)=true) (hst:isStarred arg=false) (hx1:(x==("__debug__":Str))=false) (hx2:(x==("__classdict__":Str))=false) (slot:Slot "list" meth id) (ty:typeOf (.builtin id)=pure (.type "method_descriptor"))
  (h:wpAny C.M A (eval arg env) (fun v s'=>wpAny C.M A (call (.builtin id) [.ref a,v]) Q NE s') NE s):
  wpAny C.M A (eval (.Call (.Attribute (.Name x xp) meth ap) [arg] [] cp) env) Q NE s:=by
 refine Call_method1 rfl (starEach_plain hst) hline ?_
 refine E_var p hv hx1 hx2 ?_
 refine⟨"list",id,PySem.F.plainAttrs_list,slot,ty,⟨_,ho,rfl⟩,fun b e=>by cases e;exact⟨_,ho,rfl⟩,?_⟩
 refine callWith_builtin rfl (evalArgs_plain (spliced_cons (wpAny_mono h (fun v s' h'=>spliced_nil ?_) fun _ _ x=>x)))
 exact h'
end
section
variable{C:Cx}{n:Nat}{r:Ev}{k:Bool}{A:Around}{env:Env}{Y Y' W J:List Addr}{OL N:List (Str×Addr)}{l l':LocB}{s s' s'' s1 s2:Shared}{Z Z':Addr→Prop}
def KJ(C:Cx)(J:List Addr)(s s':Shared):Prop:=∃h' tk,s'={ s with heap:=h',toks:=tk }∧s.toks≤tk∧(∀b o,b∉J→s.heap.get? b=some o→h'.get? b=some o)∧TabTo C s.heap h'
theorem TabTo.many{h h':Heap}(hP:∀a∈J,a≠C.P)(hc:∀a∈J,¬CodeAt C h a)(k:∀b o,b∉J→h.get? b=some o→h'.get? b=some o):TabTo C h h':=fun x=>by
 obtain⟨ps,h1,h2,h3⟩:=x
 have h1':=k _ _ (fun hm=>hP _ hm rfl) h1
 refine⟨⟨ps,h1',h2,fun pos cv e=> ?_⟩,fun c hc'=> ?_⟩
 ·obtain⟨c,o,vs,t,rfl,ho,hd⟩:=h3 pos cv e
  exact⟨c,o,vs,t,rfl,k _ _ (fun hm=>hc c hm ⟨ps,pos,h1,e⟩) ho,hd⟩
 ·obtain⟨ps',pos,e1,e2⟩:=hc'
  rw[h1'] at e1;cases e1
  exact .inl ⟨ps,pos,h1,e2⟩
theorem KJ.of{h':Heap}{tk:Nat}(ht:s.toks≤tk)(hP:∀a∈J,a≠C.P)(hc:∀a∈J,¬CodeAt C s.heap a)(k:∀b o,b∉J→s.heap.get? b=some o→h'.get? b=some o):KJ C J s { s with heap:=h',toks:=tk }:=
 ⟨h',tk,rfl,ht,k,TabTo.many hP hc k⟩
theorem KW.many{h':Heap}{tk:Nat}(ht:s.toks≤tk)(hP:∀a∈J,a≠C.P)(hc:∀a∈J,¬CodeAt C s.heap a)(k:∀b o,b∉J→s.heap.get? b=some o→h'.get? b=some o)(ho:∀a∈J,∃o,h'.get? a=some o):KW C (·∈J) s { s with heap:=h',toks:=tk }:=
 ⟨h',tk,rfl,ht,fun b o _ hz e=>k b o hz e,fun b _ ⟨o,e⟩=>by
  by_cases hb:b∈J
  ·exact ho b hb
  ·exact⟨o,k b o hb e⟩,TabTo.many hP hc k⟩
theorem KW.lastJ(x:KW C Z s s1)(hJ:∀b∈J,s.heap.get? b=none)(y:KJ C J s1 s2)(h:∀b,Z b→Z' b∨b∈J):KW C Z' s s2:=by
 have x':=x
 obtain⟨h1,t1,rfl,l1,k1,e1,b1⟩:=x
 obtain⟨h2,t2,rfl,l2,k2,b2⟩:=y
 have ne:∀b o,s.heap.get? b=some o→b∉J:=fun b o e hm=>by rw[hJ b hm] at e;cases e
 refine⟨h2,t2,rfl,znT l1 l2,fun b o hb hz e=>k2 b o (ne b o e) (k1 b o hb (fun z=>(h b z).elim hz (ne b o e)) e),fun b hb ⟨o,ho⟩=> ?_,b1.trans b2 fun t b h=>x'.exs t h⟩
 obtain⟨o',ho'⟩:=e1 b hb ⟨o,ho⟩
 exact⟨o',k2 b o' (ne b o ho) ho'⟩
theorem KJ.refl(s:Shared):KJ C J s s:=⟨s.heap,s.toks,rfl,Nat.le_refl _,fun _ _ _ e=>e,.keeps fun _ _ e=>e⟩
theorem KJ.heap(x:KJ C J s s'){b:Addr}{o:Obj}(hb:b∉J)(e:s.heap.get? b=some o):s'.heap.get? b=some o:=by
 obtain⟨h1,t1,rfl,l1,k1,b1⟩:=x
 exact k1 b o hb e
theorem KJ.tabTo(x:KJ C J s s'):TabTo C s.heap s'.heap:=by
 obtain⟨h1,t1,rfl,l1,k1,b1⟩:=x
 exact b1
theorem KJ.toks(x:KJ C J s s'):s.toks≤s'.toks:=by
 obtain⟨h1,t1,rfl,l1,k1,b1⟩:=x
 exact l1
theorem VarAt.kj{x:Str}{v:Value}(a:VarAt env s.heap x v)(hl:env.locals∉J)(hc:∀q∈env.cells,q.2∉J)(y:KJ C J s s'):VarAt env s'.heap x v:=by
 rcases a with ⟨hk,m,hn,hm⟩|⟨hk,c,hcl,hv⟩
 ·exact .inl ⟨hk,m,hn.at fun o e=>y.heap hl e,hm⟩
 ·obtain⟨o,ho,hd⟩:=id hv
  exact .inr ⟨hk,c,hcl,o,y.heap (hc _ (mem_of_lookup hcl)) ho,hd⟩
theorem Pre.lastJ{l:Loc}(p:Pre C n k A env Y' l s)(x:KJ C J s s')(hsub:∀a∈Y,a∈Y')(hJ:∀a∈J,a∈Y'∧a∉Y)(hP:C.P∈Y)(hc:∀p∈env.cells,p.2∈Y)(hl:env.locals∉J):Pre C n k A env Y l s':=by
 have ci:∀p∈env.cells,p.2∉J:=fun q hq hm=>(hJ _ hm).2 (hc q hq)
 have t:=p.gr.tab
 have tt:=x.tabTo t
 refine⟨p.bs,p.a,p.eo,⟨fun b o e=>x.heap (fun hm=>by rw[p.hY b (hJ b hm).1] at e;cases e) (p.gr.keep b o e),tt.1,fun e=>Nat.lt_of_lt_of_le (p.gr.toks e) x.toks⟩,hP,fun a ha=>p.hY a (hsub a ha),fun a ha=> ?_,?_,hc,?_⟩
 ·obtain⟨o,ho⟩:=p.hYs a (hsub a ha)
  exact⟨o,x.heap (fun hm=>(hJ a hm).2 ha) ho⟩
 ·obtain⟨⟨m,hn⟩,hcl,ha⟩:=p.fm
  refine⟨⟨m,hn.at fun o e=>x.heap hl e⟩,fun q hq=> ?_,ha⟩
  obtain⟨v,hv⟩:=hcl q hq
  obtain⟨o,ho,hd⟩:=id hv
  exact⟨v,o,x.heap (ci q hq) ho,hd⟩
 ·intro y d hy
  obtain⟨v,a,rv⟩:=p.loc y d hy
  refine⟨v,a.kj hl ci x,Mine.R.mono (fun a o e=> ?_) rv⟩
  obtain⟨e,nn⟩:=view_get e
  exact view_of (x.heap (fun hm=>nn (hJ a hm).1) e) fun hm=>nn (hsub a hm)
theorem RDs.lastJ{vs:List Value}{ds:List D}(x:KJ C J s s')(hsub:∀a∈Y,a∈Y')(hJ:∀a∈J,a∈Y')(h:RDs C s.heap Y' vs ds):RDs C s'.heap Y vs ds:=
 Rs.mono (fun a o e=>by
  obtain⟨e,nn⟩:=view_get e
  exact view_of (x.heap (fun hm=>nn (hJ a hm)) e) fun hm=>nn (hsub a hm)) h
theorem FS.lastJ(fs:FS C n k A env (J++Y) OL l s)(x:KJ C J s s')(hJ:∀a∈J,a∉Y)(hP:C.P∈Y)(hc:∀p∈env.cells,p.2∈Y)(wY:∀a∈frameW env,a∈Y):FS C n k A env Y OL l s':=by
 have hsub:∀a∈olA OL++Y,a∈olA OL++(J++Y):=fun a ha=>by
  rcases zapp.mp ha with h|h
  ·exact zmL _ h
  ·exact zmr _ (zmr _ h)
 have hJO:∀p∈OL,p.2∉J:=fun p hp hm=>fs.nY p hp (zmL _ hm)
 have hJ':∀a∈J,a∈olA OL++(J++Y)∧a∉olA OL++Y:=fun a ha=>⟨zmr _ (zmL _ ha),fun hm=>by
  rcases zapp.mp hm with h|h
  ·obtain⟨p,hp,rfl⟩:=zmap.mp h
   exact hJO p hp ha
  ·exact hJ a ha h⟩
 have hl:env.locals∉J:=fun hm=>hJ _ hm (wY _ zmS)
 have tt:=x.tabTo fs.pre.gr.tab
 have hWJ:∀a∈olA OL++frameW env,a∉J:=fun a ha hm=>by
  rcases zapp.mp ha with h|h
  ·obtain⟨p,hp,rfl⟩:=zmap.mp h
   exact hJO p hp hm
  ·exact hJ a hm (wY a h)
 refine⟨fs.pre.lastJ x hsub hJ' (zmr _ hP) (fun p hp=>zmr _ (hc p hp)) hl,hP,hc,⟨fs.own.ne,fun a ha hc=> ?_,fun a ha=> ?_⟩,wY,fun p hp hm=>fs.nY p hp (zmr _ hm),fs.ap,fs.cw,fun y ds hy=> ?_⟩
 ·rcases tt.2 a hc with h|h
  ·exact fs.own.code a ha h
  ·obtain⟨o,e⟩:=fs.own.ex a ha
   rw[h] at e;cases e
 ·obtain⟨o,e⟩:=fs.own.ex a ha
  exact⟨o,x.heap (hWJ a ha) e⟩
 ·obtain⟨a,vs,m,h1,h2,h3,h4⟩:=fs.lst y ds hy
  exact⟨a,vs,m,h1,h2.kj hl (fun q hq hm=>hJ _ hm (hc q hq)) x,x.heap (hJO _ h1) h3,RDs.lastJ x hsub (fun a ha=>(hJ' a ha).1) h4⟩
structure SrcR(C:Cx)(A:Around)(t:Expr)(Y:List Addr)(I:Addr)(J:List Addr)(ds:List D)(h:Heap):Prop where
 go:∃(fp:List Addr) (m i:Nat) (St:Nat→Heap→Prop) (PV:Nat→Value→Heap→Nat→Prop),
  (∀i h h',St i h→(∀b∈fp,∀o,h.get? b=some o→h'.get? b=some o)→St i h')∧
  (∀i (s:Shared) (Q:Value→Shared→Prop),i<m→St i s.heap→(∀v h' tk,s.toks≤tk→(∀b o,b∉J→s.heap.get? b=some o→h'.get? b=some o)→St (i+1) h'→PV i v h' s.heap.objs.size→(∀b∈J,∃o,h'.get? b=some o)→Q v { s with heap:=h',toks:=tk })→
   wpAny C.M A (pyNext (.ref I)) (fun r s1=>∃v,r=some v∧wpAny C.M A (letOwnedTupleGo t (.ref I) v) (fun _ s2=>Q v s2) NE s1) NE s)∧
  (∀(s:Shared) (Q:Option Value→Shared→Prop),St m s.heap→(∀h' tk,s.toks≤tk→(∀b o,b∉J→s.heap.get? b=some o→h'.get? b=some o)→Q none { s with heap:=h',toks:=tk })→wpAny C.M A (pyNext (.ref I)) Q NE s)∧
  St i h∧i+ds.length=m∧(∀b∈fp,b∈J∨b∉Y)∧(∀b∈fp,∃o,h.get? b=some o)∧
  (∀j v h' B (Y'':List Addr),PV (i+j) v h' B→(∀b∈Y'',b<B)→(∀a o,view h Y a=some o→view h' Y'' a=some o)→∀d,ds[j]? =some d→RD C h' Y'' v d)
theorem SrcR.next{t:Expr}{I:Addr}{d:D}{ds:List D}{Q:Value→Shared→Prop}(hJY:∀b∈J,b∈Y)(hYs:∀b∈Y,∃o,s.heap.get? b=some o)(x:SrcR C A t Y I J (d::ds) s.heap)
  (q:∀v h' tk,s.toks≤tk→(∀b o,b∉J→s.heap.get? b=some o→h'.get? b=some o)→(∀b∈J,∃o,h'.get? b=some o)→SrcR C A t Y I J ds h'→RD C h' Y v d→Q v { s with heap:=h',toks:=tk }):
  wpAny C.M A (pyNext (.ref I)) (fun r s1=>∃v,r=some v∧wpAny C.M A (letOwnedTupleGo t (.ref I) v) (fun _ s2=>Q v s2) NE s1) NE s:=by
 obtain⟨fp,m,i,St,PV,g1,g2,g3,g4,g5,g6,g7,g8⟩:=x.go
 simp only[List.length_cons] at g5
 refine g2 i s _ kO g4 fun v h' tk ht hk hst hpv hj=> ?_
 have hv:∀a o,view s.heap Y a=some o→view h' Y a=some o:=view_keep fun b o hb e=>hk b o (fun hm=>hb (hJY b hm)) e
 refine q v h' tk ht hk hj ⟨fp,m,i+1,St,PV,g1,g2,g3,hst,by omega,g6,fun b hb=> ?_,fun j u h'' B Y'' hu hB hv' d' hd'=> ?_⟩ (g8 0 v h' _ Y hpv (fun b hb=>let ⟨o,e⟩:=hYs b hb;Heap.lt_size e) hv d rfl)
 ·by_cases hm:b∈J
  ·exact hj b hm
  ·obtain⟨o,e⟩:=g7 b hb
   exact⟨o,hk b o hm e⟩
 ·exact g8 (j+1) u h'' B Y'' (by rw[show i+(j+1)=i+1+j by omega];exact hu) hB (fun a o e=>hv' a o (hv a o e)) d' (by simpa using hd')
theorem SrcR.done{t:Expr}{I:Addr}{Q:Option Value→Shared→Prop}(x:SrcR C A t Y I J [] s.heap)(q:∀h' tk,s.toks≤tk→(∀b o,b∉J→s.heap.get? b=some o→h'.get? b=some o)→Q none { s with heap:=h',toks:=tk }):wpAny C.M A (pyNext (.ref I)) Q NE s:=by
 obtain⟨fp,m,i,St,PV,g1,g2,g3,g4,g5,g6,g7,g8⟩:=x.go
 have:i=m:=by simpa using g5
 subst this
 exact g3 s Q g4 q
theorem SrcR.more{t:Expr}{I:Addr}{ds:List D}{h h':Heap}{Zs:List Addr}(x:SrcR C A t Y I J ds h)(hZ:∀b∈Zs,h.get? b=none)(hZY:∀b∈Y',b∈Zs∨b∈Y)(hfp:∀b o,(b∈J∨b∉Y)→h.get? b=some o→h'.get? b=some o):SrcR C A t Y' I J ds h':=by
 obtain⟨fp,m,i,St,PV,g1,g2,g3,g4,g5,g6,g7,g8⟩:=x.go
 have nZ:∀b o,h.get? b=some o→b∉Zs:=fun b o e hm=>by rw[hZ b hm] at e;cases e
 refine⟨fp,m,i,St,PV,g1,g2,g3,g1 i h h' g4 fun b hb o e=>hfp b o (g6 b hb) e,g5,fun b hb=> ?_,fun b hb=> ?_,fun j v h'' B Y'' hpv hB hv d hd=>g8 j v h'' B Y'' hpv hB (fun a o e=>hv a o ?_) d hd⟩
 ·rcases g6 b hb with h|h
  ·exact .inl h
  ·refine .inr fun hm=> ?_
   rcases hZY b hm with hm|hm
   ·obtain⟨o,e⟩:=g7 b hb
    exact nZ b o e hm
   ·exact h hm
 ·obtain⟨o,e⟩:=g7 b hb
  exact⟨o,hfp b o (g6 b hb) e⟩
 ·obtain⟨e,nn⟩:=view_get e
  refine view_of (hfp a o (.inr nn) e) fun hm=> ?_
  rcases hZY a hm with hm|hm
  ·exact nZ a o e hm
  ·exact nn hm
theorem SrcR.ofIt{t:Expr}{I:Addr}{ds:List D}{h:Heap}(hI:I∈Y)(x:ItR C A Y I ds h):SrcR C A t Y I [I] ds h:=by
 obtain⟨fp,m,P,St,i,W,st,hl,hfp,ho,hP⟩:=x
 refine⟨fp,m,i,St,fun i v _ _=>P i v,W.frame,fun i s Q hi hst hq=> ?_,fun s Q hst hq=>toksOf (W.done s _ _ hst fun h' tk hk ht=>hq h' tk ht hk),st,hl,fun b hb=> ?_,hfp.2,fun j v h' B Y'' hpv hB hv d hd=>Mine.R.mono hv (hP j v hpv d hd)⟩
 ·refine toksOf (W.item i s _ _ hi hst fun v h' tk hv hst' hk ht=>⟨v,rfl,letGo_sound (ho _ _ hst') ?_⟩)
  refine hq v h' tk ht hk hst' hv fun b hb=> ?_
  simp at hb;subst hb
  obtain⟨o,e,_⟩:=ho _ _ hst'
  exact⟨o,e⟩
 ·rcases hfp.1 b hb with e|e
  ·exact .inl (by simp[e])
  ·exact .inr e
end
section
variable{C:Cx}{n:Nat}{r:Ev}{k:Bool}{A:Around}{env:Env}{Y Y' W J:List Addr}{OL N:List (Str×Addr)}{l l':LocB}{s s' s'' s1 s2:Shared}{Z Z':Addr→Prop}
theorem okT_kind{t:Expr}(h:okT env.scope t=true):∀x∈tgtNames t,env.kindOf x=some .local∨env.kindOf x=some .cell:=by
 unfold okT at h
 split at h
 ·intro x hx;simp[tgtNames] at hx;subst hx;exact of_decide_eq_true h
 ·have h:=of_decide_eq_true h
  intro x hx;simp[tgtNames] at hx
  rcases hx with rfl|rfl
  ·exact h.1
  ·exact h.2.1
 ·cases h
theorem bindTB_sound{t:Expr}{v:Value}{d:D}{Q:Unit→Shared→Prop}(fs:FS C n k A env Y OL l s)(hT:okT env.scope t=true)(hv:RD C s.heap (olA OL++Y) v d)(hb:bindTB l t d=some l')
  (q:∀s',KW C (ZO OL env) s s'→FS C n k A env Y OL l' s'→Q () s'):wpAny C.M A (assign t env v) Q NE s:=by
 have hk:=okT_kind hT
 unfold bindTB at hb
 split at hb
 ·cases hb
  rename_i x _
  exact wpAny_assign_Name (fs.assign (hk x (by simp[tgtNames])) hv q)
 ·split at hb
  ·cases hb
   rename_i x px y py _ _ _ a b
   have h1:=hk x (by simp[tgtNames])
   have h3:=hk y (by simp[tgtNames])
   obtain⟨t,vs,m,rfl,ho,rs⟩:=hv.tup_inv
   have hl:=rs.length
   match vs,hl,ho,rs with
   |[u1,u2],_,ho,rs=>
    refine wpAny_assign_Tuple fs.pre.a.handled (isTuple_of ho) rfl rfl fun h' hk=> ?_
    have kp:KP C s { s with heap:=h' }:=KP.of nL fun b o e=>hk b o (fun e'=>Nat.lt_irrefl _ (e'▸Heap.lt_size e)) e
    have fs':=fs.kp kp
    have rs':=RDs.kp kp fs.pre.hP rs
    have hZ:∀b,ZO OL env b→b∈olA OL++Y:=fun b hb=>ZO.sub fs.wY hb
    cases rs' with|cons r1 rs''=>cases rs'' with|cons r2 _=>
    refine assignInOrder_cons (wpAny_assign_Name (fs'.assign h1 r1 fun s1 kw1 fs1=> ?_))
    refine assignInOrder_cons (wpAny_assign_Name (fs1.assign h3 (RD.kw kw1 fs.pre.hP hZ r2) fun s2 kw2 fs2=> ?_))
    exact assignInOrder_nil (q s2 ((KP.kw kp).trans (kw1.trans kw2)) fs2)
  ·cases hb
 ·cases hb
def LoopTo(C:Cx)(J:List Addr)(OL:List (Str×Addr))(env:Env)(s s2:Shared):Prop:=∃s1,KW C (fun b=>b∈J∨ZO OL env b) s s1∧KJ C J s1 s2
def LInv(C:Cx)(n:Nat)(r:Ev)(k:Bool)(A:Around)(env:Env)(Y J:List Addr)(OL:List (Str×Addr))(s:Shared)(t:Expr)(body:List Stmt)(f:Fl)(l1:LocB)(I:Addr)(m:Nat)(s1:Shared):Prop:=
 ∃its' l' N,its'.length=m∧forL r k env.scope t body l' its'=some (f,l1)∧(∀p∈N,s.heap.get? p.2=none)∧FS C n k A env (J++Y) (N++OL) l' s1∧SrcR C A t (olA (N++OL)++(J++Y)) I J its' s1.heap∧KW C (fun b=>b∈J∨ZO OL env b) s s1
theorem forLoop_sound(S:Snd C n r){t:Expr}{body orelse:List Stmt}{its:List D}{f:Fl}{l1:LocB}{I:Addr}{R:Result→Shared→Prop}(hT:okT env.scope t=true)(h:forL r k env.scope t body l its=some (f,l1))
  (fs:FS C n k A env (J++Y) OL l s) (src:SrcR C A t (olA OL++(J++Y)) I J its s.heap) (hJ:∀a∈J,a∉Y) (oJ:Own C J s.heap) (hP:C.P∈Y) (hc:∀p∈env.cells,p.2∈Y) (wY:∀a∈frameW env,a∈Y)
  (qn:f= .next→∀s2 N,(∀p∈N,s.heap.get? p.2=none)→LoopTo C J OL env s s2→FS C n k A env Y (N++OL) l1 s2→wpAny C.M A (execs orelse env) (fun f s3=>R (.ok f) s3) (notedBy C.M A env fun e s'=>R (.error e) s') s2)
  (qb:f= .brk→∀s2 N,(∀p∈N,s.heap.get? p.2=none)→LoopTo C J OL env s s2→FS C n k A env Y (N++OL) l1 s2→R (.ok .next) s2)
  (qr:∀d,f= .ret d→∀v s2,LoopTo C J OL env s s2→RD C s2.heap Y v d→R (.ok (.ret v)) s2):
  codeAny C.M A (.forLoop t (.ref I) body orelse env) R s:=by
 refine codeAny_forLoop_any (LInv C n r k A env Y J OL s t body f l1 I) ?_ its.length ⟨its,l,[],rfl,h,fun p hp=>(by cases hp),fs,src,KW.refl s⟩
 rintro m s1 ⟨its',l',N,hm,hf,hN,fs1,src1,kw1⟩
 have t0:=fs.pre.gr.tab
 have oJ1:Own C J s1.heap:=oJ.kw t0 kw1
 have hJY:∀b∈J,b∈olA (N++OL)++(J++Y):=fun b hb=>zmr _ (zmL _ hb)
 have hlJ:env.locals∉J:=fun hm=>hJ _ hm (wY _ zmS)
 have hcJ:∀q∈env.cells,¬q.2∈J:=fun q hq hm=>hJ _ hm (hc q hq)
 have hoJ:∀(OL':List (Str×Addr)) (l2:LocB) (s2:Shared),FS C n k A env (J++Y) OL' l2 s2→∀b∈J,¬ZO OL' env b:=fun OL' l2 s2 fs2 b hb hz=>by
  rcases zapp.mp hz with h|h
  ·obtain⟨p,hp,rfl⟩:=zmap.mp h
   exact fs2.nY p hp (zmL _ hb)
  ·exact hJ b hb (wY b h)
 have nE:∀{α:Type} {t:Sem α} {Q:α→Shared→Prop} {s:Shared},wpAny C.M A t Q NE s→wpAny C.M A t Q (notedBy C.M A env fun e s'=>R (.error e) s') s:=fun h=>ne h
 cases its' with
 |nil=>
  cases hf
  refine nE (src1.done fun h' tk ht hk=> ?_)
  have kj:KJ C J s1 { s1 with heap:=h',toks:=tk }:=KJ.of ht oJ1.ne oJ1.code hk
  exact qn rfl _ N hN ⟨s1,kw1,kj⟩ (fs1.lastJ kj hJ hP hc wY)
 |cons d ds=>
  unfold forL at hf
  obtain⟨l2,hb,hf⟩:=zbs.mp hf
  obtain⟨⟨f3,l3⟩,hs,hf⟩:=zbs.mp hf
  refine nE (wpAny_mono (src1.next hJY fs1.pre.hYs (Q:=fun v s2=>wpAny C.M A (assign t env v) (fun _ s₂=>wpAny C.M A (execs body env) (fun ff s₃=>match ff with
      | .next| .cont=>∃m',m'<m∧LInv C n r k A env Y J OL s t body f l1 I m' s₃
      | .brk=>R (.ok .next) s₃
      | .ret v=>R (.ok (.ret v)) s₃) (notedBy C.M A env fun e s'=>R (.error e) s') s₂) (notedBy C.M A env fun e s'=>R (.error e) s') s2) ?_) ?_ fun _ _ x=>x)
  ·intro v h' tk ht hk hjo src2 hv
   have kw2:KW C (·∈J) s1 { s1 with heap:=h',toks:=tk }:=KW.many ht oJ1.ne oJ1.code hk hjo
   have fs2:FS C n k A env (J++Y) (N++OL) l' { s1 with heap:=h',toks:=tk }:=by
    have hJl:¬env.locals∈J:=hlJ
    refine⟨fs1.pre.kw kw2 hJY hJl hcJ,fs1.hP,fs1.cY,fs1.own.kw fs1.pre.gr.tab kw2,fs1.wY,fs1.nY,fs1.ap,fs1.cw,fun y dy hy=> ?_⟩
    obtain⟨a,vs,m',h1,h2,h3,h4⟩:=fs1.lst y dy hy
    have haJ:¬a∈J:=fun hm=>fs1.nY _ h1 (zmL _ hm)
    have haP:a≠C.P:=fs1.own.ne a (zmL _ (List.mem_map_of_mem (f:=(·.2)) h1))
    exact⟨a,vs,m',h1,h2.kw fs1.pre.gr.tab kw2 hJl hcJ,kw2.heap haP haJ h3,RDs.kw kw2 fs1.pre.hP hJY h4⟩
   refine nE (bindTB_sound fs2 hT hv hb fun s3 kw3 fs3=> ?_)
   have kw13:KW C (fun b=>b∈J∨ZO OL env b) s s3:=kw1.transNew ((kw2.mono fun b hb=>Or.inl hb).trans (kw3.mono fun b hb=>Or.inr hb) (Z:=fun b=>b∈J∨ZO (N++OL) env b)) fun b hb=>by
    rcases hb with hb|hb
    ·exact .inl (.inl hb)
    ·rcases zoNew hN b hb with h|h
     ·exact .inl (.inr h)
     ·exact .inr h
   have src3:SrcR C A t (olA (N++OL)++(J++Y)) I J ds s3.heap:=src2.more (Zs:=[]) (fun b hb=>by cases hb) (fun b hb=> .inr hb) fun b o hb e=>by
    refine kw3.heap (fun e'=> ?_) (fun hz=> ?_) e
    ·rcases hb with hb|hb
     ·exact oJ1.ne b hb e'
     ·exact hb (e'▸fs1.pre.hP)
    ·rcases hb with hb|hb
     ·exact hoJ _ _ _ fs2 b hb hz
     ·exact hb (ZO.sub fs2.wY hz)
   refine Ssl_sound S.S body (N++OL) l2 l3 f3 s3 _ _ fs3 hs ?_
   have next:∀(f':Fl),f'=f3→(f3= .next∨f3= .cont)→forL r k env.scope t body l3 ds=some (f,l1)→NextPost C n k A env (J++Y) (N++OL) l3 s3 (fun s4=>∃m',m'<m∧LInv C n r k A env Y J OL s t body f l1 I m' s4):=by
    intro f' _ _ hf s4 N2 hN2 kw4 fs4
    have hN2s:∀p∈N2,s.heap.get? p.2=none:=fun p hp=>newIn kw13 t0 (hN2 p hp)
    refine⟨ds.length,by rw[←hm];simp,ds,l3,N2++N,rfl,hf,fun p hp=> ?_,by rw[List.append_assoc];exact fs4,?_,?_⟩
    ·rcases zapp.mp hp with hp|hp
     ·exact hN2s p hp
     ·exact hN p hp
    ·refine src3.more (Zs:=olA N2) (fun b hb=> ?_) (fun b hb=> ?_) fun b o hb e=> ?_
     ·obtain⟨p,hp,rfl⟩:=zmap.mp hb
      exact hN2 p hp
     ·simp only[olA,List.map_append,List.mem_append] at hb ⊢
      rcases hb with ((hb|hb)|hb)|hb
      ·exact .inl hb
      ·exact .inr (.inl (.inl hb))
      ·exact .inr (.inl (.inr hb))
      ·exact .inr (.inr hb)
     ·refine kw4.heap (fun e'=> ?_) (fun hz=> ?_) e
      ·rcases hb with hb|hb
       ·exact oJ1.ne b hb e'
       ·exact hb (e'▸fs1.pre.hP)
      ·rcases hb with hb|hb
       ·exact hoJ _ _ _ fs3 b hb hz
       ·exact hb (ZO.sub fs3.wY hz)
    ·exact kw13.transNew (kw4.mono fun b hb=>hb) fun b hb=>by
      rcases zoNew hN b hb with h|h
      ·exact .inl (.inr h)
      ·exact .inr h
   have kw4f:∀s4,KW C (ZO (N++OL) env) s3 s4→KW C (fun b=>b∈J∨ZO OL env b) s s4:=fun s4 kw4=>kw13.transNew kw4 fun b hb=>by
    rcases zoNew hN b hb with h|h
    ·exact .inl (.inr h)
    ·exact .inr h
   cases f3 with
   |next=>exact next _ rfl (.inl rfl) hf
   |cont=>exact next _ rfl (.inr rfl) hf
   |brk=>
    cases hf
    intro s4 N2 hN2 kw4 fs4
    refine qb rfl s4 (N2++N) (fun p hp=> ?_) ⟨s4,kw4f s4 kw4,KJ.refl s4⟩ (by rw[List.append_assoc];exact fs4.lastJ (KJ.refl s4) hJ hP hc wY)
    rcases zapp.mp hp with hp|hp
    ·exact newIn kw13 t0 (hN2 p hp)
    ·exact hN p hp
   |ret d'=>
    cases hf
    intro v s4 kw4 rd
    exact qr d' rfl v s4 ⟨s4,kw4f s4 kw4,KJ.refl s4⟩ (Mine.R.mono (view_sub fun a ha=>zmr _ ha) rd)
   |exc c d'=>cases hf
  ·rintro rr s2 ⟨v,rfl,hh⟩
   exact ne hh
end
open AutoSeq1 (wpAny_loadPart')
theorem IsTupleIter.at{h h':Heap}{a t i}(x:h.IsTupleIter a t i)(e:∀o,h.get? a=some o→h'.get? a=some o):h'.IsTupleIter a t i:=let ⟨o,ho,r⟩:=x;⟨o,e _ ho,r⟩
section
variable{prog:Program}{w:World}{A:Around}{E:Value→Shared→Prop}{s:Shared}
theorem meets_enumT(l:Addr)(items:Array Value)(n:Nat):
  Meets (Builtin.«enumerate.__new__» ⟨[.type "enumerate",.ref l],[]⟩) (fun _ R s=>s.heap.get? l=some { cls:= .type "tuple",dict:=none,data:= .seq items n,slots:= #[] }∧
   R (.ok (.ret (.ref (s.heap.push { cls:= .type "tuple_iterator",data:= .fields #[.ref l,.int 0 0] }).objs.size)))
     { s with heap:=(s.heap.push { cls:= .type "tuple_iterator",data:= .fields #[.ref l,.int 0 0] }).push { cls:= .type "enumerate",data:= .fields #[.none,.bool false,.ref s.heap.objs.size,rawInt 0,.none,.none] } }):=
 .of_wp fun prog w A R s h=>by
  obtain⟨hp,g,d,tk,os⟩:=s;obtain⟨hl,h⟩:=h
  have hsub:=sub_enumerate
  have hL:Heap.IsTuple (Shared.heap ⟨hp,g,d,tk,os⟩) l items:=⟨_,hl,rfl,n,rfl⟩
  wp_walk using wpAny_loadPart' hl
  refine wpAny_stack_any fun st=>wpAny_pure ?_
  split
  ·rename_i c _ _ _ _ _
   cases (c==Value.type "enumerate")
   ·wp_walk using wpAny_loadPart' hl,wpAny_pyIter_tuple hL
    exact⟨_,rfl,h⟩
   ·wp_walk using wpAny_loadPart' hl,wpAny_pyIter_tuple hL
    exact⟨_,rfl,h⟩
  ·wp_walk using wpAny_loadPart' hl,wpAny_pyIter_tuple hL
   exact⟨_,rfl,h⟩
theorem call_enumT{l:Addr}{vs:List Value}{n:Nat}{Q:Value→Shared→Prop}(hl:s.heap.get? l=some (tupO vs n))
  (h:∀h',IsEnum h' (s.heap.objs.size+1) s.heap.objs.size 0 .none→h'.IsTupleIter s.heap.objs.size l 0→h'.objs.size=s.heap.objs.size+2→
   (∀b o,s.heap.get? b=some o→h'.get? b=some o)→Q (.ref (s.heap.objs.size+1)) { s with heap:=h' }):
  wpAny (model prog w) A (call (.type "enumerate") [.ref l]) Q E s:=by
 refine callType_new F.called_enumerate kD (F.typeCall_enumerate_1 _) (F.newCall_enumerate_1 _) (fun obj=>F.args_object_init_2 obj _) F.entry_enumerate_new
  (meets_enumT l vs.toArray n) ⟨hl,?_⟩
 have hz:(s.heap.push { cls:= .type "tuple_iterator",data:= .fields #[.ref l,.int 0 0] }).objs.size=s.heap.objs.size+1:=Heap.size_push ..
 show _∧_
 rw[hz]
 have he:IsEnum ((s.heap.push { cls:= .type "tuple_iterator",data:= .fields #[.ref l,.int 0 0] }).push
   { cls:= .type "enumerate",data:= .fields #[.none,.bool false,.ref s.heap.objs.size,rawInt 0,.none,.none] }) (s.heap.objs.size+1) s.heap.objs.size 0 .none:=by
  have:=Heap.get?_push_size (s.heap.push { cls:= .type "tuple_iterator",data:= .fields #[.ref l,.int 0 0] })
   (o:={ cls:= .type "enumerate",data:= .fields #[.none,.bool false,.ref s.heap.objs.size,rawInt 0,.none,.none] }) rfl
  rw[hz] at this;exact this
 refine⟨⟨_,he,rfl⟩,h _ he ⟨_,zpO _ (Heap.get?_push_size _ rfl),rfl,rfl⟩ (by rw[Heap.size_push,hz]) fun b o x=>zpO _ (zpO _ x)⟩
theorem nextOf_tup_item{it l:Addr}{i:Nat}{items}{x:Value}{Q:Value→Shared→Prop}(hit:s.heap.IsTupleIter it l i)
  (hl:s.heap.IsTuple l items) (hx:items[i]? =some x)
  (hQ:∀h',h'.IsTupleIter it l (i+1)→Heap.SameBut it s.heap h'→Q x { s with heap:=h' }):
  wpAny (model prog w) A (Builtin.SmallTypes.nextOf (.ref it)) Q E s:=by
 obtain⟨o,ho,hc,hd⟩:=id hit
 obtain⟨ol,hol,_,nl,hdl⟩:=hl
 unfold Builtin.SmallTypes.nextOf
 refine wpAny_bind (wpAny_callSpecial?_slot (name:=Str.ofString "__next__") hit.typeIs F.slot_tuple_iterator_next
  (wpAny_call_entry F.slot_tuple_iterator_next hit.typeIs F.entry_tuple_iterator_next ?_ (F.args_tuple_iterator_next_1 _)))
 show wpAny _ _ (field (.ref it) 0 >>=_) _ _ s
 refine wpAny_bind (wpAny_field ho hd (x:= .ref l) rfl ?_)
 show wpAny _ _ (if (Value.ref l==Value.none)=true then _ else _) _ _ s
 rw[if_neg (show¬((Value.ref l==Value.none)=true) from Bool.false_ne_true)]
 show wpAny _ _ (field (.ref it) 1 >>=_) _ _ s
 refine wpAny_bind (wpAny_field ho hd (x:= .int i 0) rfl ?_)
 show wpAny _ _ (seqItems? (.ref l) >>=_) _ _ s
 refine wpAny_bind (wpAny_seqItems hol hdl ?_)
 simp only[Int.toNat_natCast,hx]
 refine wpAny_bind (wpAny_setField ho hd (by simp) (wpAny_pure ⟨x,rfl,wpAny_pure (hQ _ ?_ (Heap.SameBut.update ..))⟩))
 exact⟨_,Heap.get?_update_self _ ho (Obj.isFreed_of_fields (Obj.data_mapFields hd _)),(Obj.cls_mapFields ..).trans hc,by
  rw[Obj.data_mapFields hd];simp[rawInt]⟩
theorem nextOf_tup_end{it l:Addr}{i:Nat}{items}{Q:Value→Shared→Prop}(hh:A.handled=none)
  (hit:s.heap.IsTupleIter it l i) (hl:s.heap.IsTuple l items) (hx:items[i]? =none)
  (hE:∀h' e,Heap.ExtBut it s.heap h'→(∃o,h'.get? e=some o∧o.cls= .type "StopIteration")→E (.ref e) { s with heap:=h' }):
  wpAny (model prog w) A (Builtin.SmallTypes.nextOf (.ref it)) Q E s:=by
 obtain⟨o,ho,hc,hd⟩:=id hit
 obtain⟨ol,hol,_,nl,hdl⟩:=hl
 unfold Builtin.SmallTypes.nextOf
 refine wpAny_bind (wpAny_callSpecial?_slot (name:=Str.ofString "__next__") hit.typeIs F.slot_tuple_iterator_next
  (wpAny_call_entry F.slot_tuple_iterator_next hit.typeIs F.entry_tuple_iterator_next ?_ (F.args_tuple_iterator_next_1 _)))
 show wpAny _ _ (field (.ref it) 0 >>=_) _ _ s
 refine wpAny_bind (wpAny_field ho hd (x:= .ref l) rfl ?_)
 show wpAny _ _ (if (Value.ref l==Value.none)=true then _ else _) _ _ s
 rw[if_neg (show¬((Value.ref l==Value.none)=true) from Bool.false_ne_true)]
 show wpAny _ _ (field (.ref it) 1 >>=_) _ _ s
 refine wpAny_bind (wpAny_field ho hd (x:= .int i 0) rfl ?_)
 show wpAny _ _ (seqItems? (.ref l) >>=_) _ _ s
 refine wpAny_bind (wpAny_seqItems hol hdl ?_)
 simp only[Int.toNat_natCast,hx]
 refine wpAny_bind (wpAny_rule (wpAny_bind (wpAny_setField ho hd (by simp) ?_)))
 show wpAny _ _ (newExc (.type "StopIteration") [] >>=_) _ _ _
 refine wpAny_bind ?_
 simp only[newExc,newTuple]
 refine wpAny_bind (wpAny_newObj_type ?_ (by size_fits))
 refine wpAny_bind (m:=firstArgMember _ _) (wpAny_of_eq (a:=Value.none) (by first|rfl|(simp only[firstArgMember];rfl)) ?_)
 refine wpAny_newObj_type ?_ (by size_fits)
 simp only[raiseNew]
 refine wpAny_bind (wpAny_handled ?_)
 first|rw[show A.in1.handled=none from hh]|rw[hh]
 refine wpAny_bind (wpAny_pure (wpAny_throw ?_))
 exact hE _ _ (((Heap.SameBut.update ..).extBut.push _).push _) ⟨_,Heap.get?_push_size _ rfl,rfl⟩
theorem enumT_item{e it l:Addr}{i:Nat}{items:Array Value}{x old:Value}{Q:Value→Shared→Prop}
  (he:IsEnum s.heap e it i old) (hit:s.heap.IsTupleIter it l i) (hl:s.heap.IsTuple l items) (hx:items[i]? =some x) (hne:e≠it)
  (hQ:∀h',IsEnumOut h' e it ((i:Int)+1) x s.heap.objs.size→h'.IsTupleIter it l (i+1)→
   h'.get? s.heap.objs.size=some { cls:= .type "tuple",data:= .seq #[.int i s.toks,x] }→h'.objs.size=s.heap.objs.size+1→
   (∀b o,b≠e→b≠it→s.heap.get? b=some o→h'.get? b=some o)→Q (.ref s.heap.objs.size) { s with heap:=h',toks:=s.toks+1 }):
  wpAny (model prog w) A (Builtin.«enumerate.__next__» ⟨[.ref e],[]⟩) (fun fin s'=>∃v,fin= .done (.ret v)∧Q v s') E s:=by
 obtain⟨hp,g,d,tk,os⟩:=s
 show wpAny _ _ (field (.ref e) 2 >>=_) _ _ _
 refine wpAny_bind (wpAny_field he rfl (x:= .ref it) rfl ?_)
 refine wpAny_bind (nextOf_tup_item hit hl hx fun h₁ hit₁ hs₁=> ?_)
 replace hs₁:Heap.SameBut it hp h₁:=hs₁
 have he₁:IsEnum h₁ e it i old:=(hs₁.2 e hne).trans he
 show wpAny _ _ (field (.ref e) 3 >>=_) _ _ ⟨h₁,g,d,tk,os⟩
 refine wpAny_bind (wpAny_field he₁ rfl (x:=rawInt i) rfl ?_)
 show wpAny _ _ (field (.ref e) 4 >>=_) _ _ ⟨h₁,g,d,tk,os⟩
 refine wpAny_bind (wpAny_field he₁ rfl (x:= .none) rfl ?_)
 show wpAny _ _ (mkInt i >>=_) _ _ ⟨h₁,g,d,tk,os⟩
 refine wpAny_bind (wpAny_mkInt ?_)
 show wpAny _ _ (setField (.ref e) 3 (rawInt ((i:Int)+1)) >>=_) _ _ ⟨h₁,g,d,tk+1,os⟩
 refine wpAny_bind (wpAny_setField_rec he₁ (by simp) fun h₂ he₂ hs₂=> ?_)
 replace hs₂:Heap.SameBut e h₁ h₂:=hs₂
 replace he₂:IsEnum h₂ e it ((i:Int)+1) old:=he₂
 show wpAny _ _ (setField (.ref e) 4 .none >>=_) _ _ ⟨h₂,g,d,tk+1,os⟩
 refine wpAny_bind (wpAny_setField_rec he₂ (by simp) fun h₃ he₃ hs₃=> ?_)
 replace hs₃:Heap.SameBut e h₂ h₃:=hs₃
 replace he₃:IsEnum h₃ e it ((i:Int)+1) old:=he₃
 show wpAny _ _ (newTuple [.int i tk,x] >>=_) _ _ ⟨h₃,g,d,tk+1,os⟩
 refine wpAny_bind (wpAny_newTuple ?_)
 have he₄:IsEnum (h₃.push { cls:= .type "tuple",data:= .seq #[.int i tk,x] }) e it ((i:Int)+1) old:=zpO _ he₃
 generalize hh₄:h₃.push { cls:= .type "tuple",data:= .seq #[.int i tk,x] }=h₄ at he₄
 have hsz:h₃.objs.size=hp.objs.size:=by rw[hs₃.1,hs₂.1,hs₁.1]
 have hel:e<hp.objs.size:=Heap.lt_size he
 have ht₄:h₄.get? hp.objs.size=some { cls:= .type "tuple",data:= .seq #[.int i tk,x] }:=by rw[←hh₄,←hsz];exact Heap.get?_push_size _ rfl
 have hz₄:h₄.objs.size=hp.objs.size+1:=by rw[←hh₄,Heap.size_push,hsz]
 have hk₄:∀b o,b≠e→b≠it→hp.get? b=some o→h₄.get? b=some o:=fun b o hbe hbi hb=>by
  rw[←hh₄];exact zpO _ (hs₃.extBut b o hbe (hs₂.extBut b o hbe (hs₁.extBut b o hbi hb)))
 have hit₄:h₄.IsTupleIter it l (i+1):=by
  rw[←hh₄];obtain⟨o,ho,r⟩:=(hit₁.extBut hs₂.extBut (Ne.symm hne)).extBut hs₃.extBut (Ne.symm hne);exact⟨o,zpO _ ho,r⟩
 show wpAny _ _ (Builtin.SmallTypes.ownedTupleIsFree (.ref e) >>=_) _ _ ⟨h₄,g,d,tk+1,os⟩
 rw[hsz]
 clear hh₄ he₃ hs₃ he₂ hs₂ he₁ hs₁ hit₁ hsz h₃ h₂ h₁
 refine wpAny_bind ?_
 ·unfold Builtin.SmallTypes.ownedTupleIsFree
  refine wpAny_bind (wpAny_field he₄ rfl (x:= .none) rfl (wpAny_pure ?_))
  simp only[if_true]
  refine wpAny_bind (wpAny_rule ?_)
  refine wpAny_bind (wpAny_field he₄ rfl (x:=old) rfl ?_)
  refine wpAny_bind (wpAny_setField_rec he₄ (by simp) fun h₅ he₅ hs₅=> ?_)
  replace hs₅:Heap.SameBut e h₄ h₅:=hs₅
  replace he₅:IsEnum h₅ e it ((i:Int)+1) x:=he₅
  show wpAny _ _ (Builtin.SmallTypes.ownedTupleHandOut (.ref e) (.ref hp.objs.size) >>=_) _ _ ⟨h₅,g,d,tk+1,os⟩
  refine wpAny_bind ?_
  ·unfold Builtin.SmallTypes.ownedTupleHandOut
   refine wpAny_bind (wpAny_setField_rec he₅ (by simp) fun h₆ he₆ hs₆=> ?_)
   replace hs₆:Heap.SameBut e h₅ h₆:=hs₆
   replace he₆:IsEnumOut h₆ e it ((i:Int)+1) x hp.objs.size:=he₆
   refine wpAny_setField_rec he₆ (by simp) fun h₇ he₇ hs₇=> ?_
   replace hs₇:Heap.SameBut e h₆ h₇:=hs₇
   replace he₇:IsEnumOut h₇ e it ((i:Int)+1) x hp.objs.size:=he₇
   refine wpAny_bind (wpAny_letGo (wpAny_pure ⟨_,rfl,hQ h₇ he₇ ?_ ?_ ?_ ?_⟩))
   ·exact((hit₄.extBut hs₅.extBut (Ne.symm hne)).extBut hs₆.extBut (Ne.symm hne)).extBut hs₇.extBut (Ne.symm hne)
   ·exact hs₇.extBut _ _ (Nat.ne_of_gt hel) (hs₆.extBut _ _ (Nat.ne_of_gt hel) (hs₅.extBut _ _ (Nat.ne_of_gt hel) ht₄))
   ·rw[hs₇.1,hs₆.1,hs₅.1,hz₄]
   ·exact fun b o hbe hbi hb=>hs₇.extBut b o hbe (hs₆.extBut b o hbe (hs₅.extBut b o hbe (hk₄ b o hbe hbi hb)))
theorem pyNext_enumT_item{e it l:Addr}{i:Nat}{items:Array Value}{x old:Value}{Q:Option Value→Shared→Prop}
  (he:IsEnum s.heap e it i old) (hit:s.heap.IsTupleIter it l i) (hl:s.heap.IsTuple l items) (hx:items[i]? =some x) (hne:e≠it)
  (hQ:∀h',IsEnumOut h' e it ((i:Int)+1) x s.heap.objs.size→h'.IsTupleIter it l (i+1)→
   h'.get? s.heap.objs.size=some { cls:= .type "tuple",data:= .seq #[.int i s.toks,x] }→h'.objs.size=s.heap.objs.size+1→
   (∀b o,b≠e→b≠it→s.heap.get? b=some o→h'.get? b=some o)→Q (some (.ref s.heap.objs.size)) { s with heap:=h',toks:=s.toks+1 }):
  wpAny (model prog w) A (pyNext (.ref e)) Q E s:=by
 have hT:s.TypeIs (.ref e) "enumerate":=⟨_,he,rfl⟩
 unfold pyNext
 exact wpAny_bind (wpAny_attempt (wpAny_callSpecial?_slot (name:=Str.ofString "__next__") hT F.slot_enumerate_next
  (wpAny_call_entry F.slot_enumerate_next hT F.entry_enumerate_next
   (enumT_item he hit hl hx hne fun h' a b c d k=>wpAny_pure (hQ h' a b c d k)) (F.args_enumerate_next_1 _))))
theorem pyNext_enumT_end{e it l:Addr}{i:Nat}{items:Array Value}{old:Value}{Q:Option Value→Shared→Prop}(hh:A.handled=none)
  (he:IsEnum s.heap e it i old) (hit:s.heap.IsTupleIter it l i) (hl:s.heap.IsTuple l items) (hx:items[i]? =none)
  (hQ:∀h',Heap.ExtBut it s.heap h'→Q none { s with heap:=h' }):wpAny (model prog w) A (pyNext (.ref e)) Q E s:=by
 have hT:s.TypeIs (.ref e) "enumerate":=⟨_,he,rfl⟩
 unfold pyNext
 refine wpAny_bind (wpAny_attempt (wpAny_callSpecial?_slot (name:=Str.ofString "__next__") hT F.slot_enumerate_next
  (wpAny_call_entry F.slot_enumerate_next hT F.entry_enumerate_next ?_ (F.args_enumerate_next_1 _))))
 show wpAny _ _ (field (.ref e) 2 >>=_) _ _ _
 refine wpAny_bind (wpAny_field he rfl (x:= .ref it) rfl ?_)
 refine wpAny_bind (nextOf_tup_end hh hit hl hx fun h' x he' hx'=> ?_)
 obtain⟨o,ho,hc⟩:=hx'
 refine wpAny_bind (wpAny_isInstance (T:="StopIteration") (b:=true) ⟨o,ho,hc⟩ isSubtype_stop ?_)
 exact wpAny_pure (hQ _ he')
end
section
variable{C:Cx}{A:Around}{Y:List Addr}{s:Shared}
theorem SrcR.enumT{ts:List Expr}{kd:Nat}{pos:Pos}{e it l:Addr}{vs:List Value}{ds:List D}{n:Nat}{h:Heap}(hh:A.handled=none)(he:IsEnum h e it 0 .none)(hit:h.IsTupleIter it l 0)(hl:h.get? l=some (tupO vs n))(hei:e≠it)(hle:l≠e)(hli:l≠it)(hlY:l∉Y)(hr:RDs C h Y vs ds):
  SrcR C A (.Tuple ts kd pos) Y e [e,it] (ds.mapIdx fun k d=>D.tup [.int k,d]) h:=by
 have hlen:=hr.length
 obtain⟨oi,hoi,hoc,hod⟩:=id hit
 refine⟨[e,it,l],vs.length,0,fun i h=>(∃old,IsEnum h e it i old)∧h.IsTupleIter it l i∧h.get? l=some (tupO vs n),
  fun i v h' B=>∃T t x,v= .ref T∧h'.get? T=some (tupO [.int i t,x] 0)∧vs[i]? =some x∧B≤T,fun i h h' ⟨⟨old,h1⟩,h2,h3⟩ hk=>⟨⟨old,hk e (by simp) _ h1⟩,IsTupleIter.at h2 fun o x=>hk it (by simp) o x,hk l (by simp) _ h3⟩,?_,?_,
  ⟨⟨_,he⟩,hit,hl⟩,by simp[hlen],fun b hb=> ?_,fun b hb=> ?_,?_⟩
 ·rintro i s Q hi ⟨⟨old,h1⟩,h2,h3⟩ hq
  have hx:vs.toArray[i]? =some (vs[i]'hi):=by simp[hi]
  have hL:s.heap.IsTuple l vs.toArray:=⟨_,h3,rfl,n,rfl⟩
  have helt:=Heap.lt_size h1
  have hilt:it<s.heap.objs.size:=by obtain⟨o,ho,_⟩:=h2;exact Heap.lt_size ho
  refine pyNext_enumT_item h1 h2 hL hx hei fun h' ho hit' hT hsz hk=>⟨_,rfl,wpAny_letOwnedTupleGo_enum ho fun h'' he'' hs''=> ?_⟩
  replace hs'':Heap.SameBut e h' h'':=hs''
  have hkk:∀b o,b≠e→h'.get? b=some o→h''.get? b=some o:=fun b o hb x=>by rw[hs''.2 b hb];exact x
  refine hq (.ref s.heap.objs.size) h'' (s.toks+1) (Nat.le_succ _) (fun b o hb x=>hkk b o (fun e'=>hb (by simp[e'])) (hk b o (fun e'=>hb (by simp[e'])) (fun e'=>hb (by simp[e'])) x))
   ⟨⟨_,by simpa using he''⟩,IsTupleIter.at hit' fun o x=>hkk it o hei.symm x,hkk l _ hle (hk l _ hle hli h3)⟩ ⟨s.heap.objs.size,s.toks,vs[i]'hi,rfl,hkk _ _ (Nat.ne_of_gt helt) hT,by simp,Nat.le_refl _⟩ fun b hb=> ?_
  simp at hb
  rcases hb with rfl|rfl
  ·exact⟨_,he''⟩
  ·obtain⟨o,ho',_⟩:=hit'
   exact⟨o,hkk _ _ hei.symm ho'⟩
 ·rintro s Q ⟨⟨old,h1⟩,h2,h3⟩ hq
  have hL:s.heap.IsTuple l vs.toArray:=⟨_,h3,rfl,n,rfl⟩
  exact pyNext_enumT_end hh h1 h2 hL (by simp) fun h' hx=>hq h' s.toks nL fun b o hb y=>hx b o (fun e'=>hb (by simp[e'])) y
 ·simp at hb
  rcases hb with rfl|rfl|rfl
  ·exact .inl (by simp)
  ·exact .inl (by simp)
  ·exact .inr hlY
 ·simp at hb
  rcases hb with rfl|rfl|rfl
  ·exact⟨_,he⟩
  ·exact⟨_,hoi⟩
  ·exact⟨_,hl⟩
 ·rintro j v h' B Y'' ⟨T,t,x,rfl,hT,hx,hBT⟩ hB hv d hd
  rw[List.getElem?_mapIdx] at hd
  obtain⟨d',hd',rfl⟩:=Option.map_eq_some_iff.mp hd
  obtain⟨v',hv',rv⟩:=hr.get hd'
  rw[Nat.zero_add] at hx
  rw[hx] at hv';cases hv'
  rw[Nat.zero_add] at hT
  refine .tup (view_of hT fun hm=> ?_) (.cons (.int _ t) (.cons (Mine.R.mono hv rv) .nil))
  exact absurd hBT (Nat.not_le.mpr (hB T hm))
end
section
variable{C:Cx}{n:Nat}{r:Ev}{k:Bool}{A:Around}{env:Env}{Y Y' W J:List Addr}{OL N:List (Str×Addr)}{l l':LocB}{s s' s'' s1 s2:Shared}{Z Z':Addr→Prop}
theorem Pre.moreL{l:Loc}(p:Pre C n k A env Y l s)(x:KP C s s')(hn:∀a∈J,s.heap.get? a=none)(hI:∀a∈J,∃o,s'.heap.get? a=some o)(h1:∀a∈Y',a∈J∨a∈Y)(h2:∀a∈Y,a∈Y'):Pre C n k A env Y' l s':=by
 have p1:Pre C n k A env Y l s':=p.kp x
 refine⟨p.bs,p.a,p.eo,p1.gr,h2 _ p.hP,fun a ha=> ?_,fun a ha=> ?_,p1.fm,fun q hq=>h2 _ (p.hc q hq),fun y d e=> ?_⟩
 ·rcases h1 a ha with ha|ha
  ·exact none_of fun⟨o,ho⟩=>by have:=hn a ha;rw[p.gr.keep _ o ho] at this;cases this
  ·exact p.hY a ha
 ·rcases h1 a ha with ha|ha
  ·exact hI a ha
  ·exact p1.hYs a ha
 ·obtain⟨v,a,rv⟩:=p.loc y d e
  refine⟨v,a.kp p.gr.tab x,Mine.R.mono (fun a o e=> ?_) rv⟩
  obtain⟨e,nn⟩:=view_get e
  refine view_of (x.heap (fun h=>nn (h▸p.hP)) e) fun hm=> ?_
  rcases h1 a hm with hm|hm
  ·rw[hn a hm] at e;cases e
  ·exact nn hm
theorem RDs.moreL{vs:List Value}{ds:List D}(x:KP C s s')(hP:C.P∈Y)(hn:∀a∈J,s.heap.get? a=none)(h1:∀a∈Y',a∈J∨a∈Y)(h:RDs C s.heap Y vs ds):RDs C s'.heap Y' vs ds:=
 Rs.mono (fun a o e=>by
  obtain⟨e,nn⟩:=view_get e
  refine view_of (x.heap (fun h=>nn (h▸hP)) e) fun hm=> ?_
  rcases h1 a hm with hm|hm
  ·rw[hn a hm] at e;cases e
  ·exact nn hm) h
theorem FS.moreJ(fs:FS C n k A env Y OL l s)(x:KP C s s')(hn:∀a∈J,s.heap.get? a=none)(hI:∀a∈J,∃o,s'.heap.get? a=some o):FS C n k A env (J++Y) OL l s':=by
 have h1:∀a∈olA OL++(J++Y),a∈J∨a∈olA OL++Y:=fun a ha=>by
  simp only[List.mem_append] at ha ⊢
  rcases ha with h|h|h
  ·exact .inr (.inl h)
  ·exact .inl h
  ·exact .inr (.inr h)
 have h2:∀a∈olA OL++Y,a∈olA OL++(J++Y):=fun a ha=>by
  simp only[List.mem_append] at ha ⊢
  rcases ha with h|h
  ·exact .inl h
  ·exact .inr (.inr h)
 refine⟨fs.pre.moreL x hn hI h1 h2,zmr _ fs.hP,fun p hp=>zmr _ (fs.cY p hp),fs.own.kw fs.pre.gr.tab (KP.kw x (Z:=fun _=>False)),fun a ha=>zmr _ (fs.wY a ha),fun p hp hm=> ?_,fs.ap,fs.cw,fun y ds hy=> ?_⟩
 ·rcases zapp.mp hm with h|h
  ·obtain⟨o,e⟩:=fs.own.ex p.2 (zmL _ (List.mem_map_of_mem (f:=(·.2)) hp))
   rw[hn _ h] at e;cases e
  ·exact fs.nY p hp h
 ·obtain⟨a,vs,m,g1,g2,g3,g4⟩:=fs.lst y ds hy
  have hPP:a≠C.P:=fs.own.ne a (zmL _ (List.mem_map_of_mem (f:=(·.2)) g1))
  exact⟨a,vs,m,g1,g2.kp fs.pre.gr.tab x,x.heap hPP g3,RDs.moreL x fs.pre.hP hn h1 g4⟩
theorem swaps_cases(e:Expr)(x:Str)(p:Pos)(line:Nat):∃b,swapsWith e (some (.Name x p)) line env=pure b∧(b=true→isCompE e=true∧env.kindOf x=some .local):=by
 unfold swapsWith
 split
 ·refine⟨_,rfl,fun hb=> ?_⟩
  simp only[Bool.and_eq_true,beq_iff_eq] at hb
  refine⟨?_,hb.1.1.2⟩
  rename_i hs
  cases e <;> first|rfl|(cases hs)
 ·exact⟨false,rfl,fun h=>by cases h⟩
theorem fresh_noswap{e:Expr}(h:freshList e=true)(x:Str)(p:Pos)(line:Nat):swapsWith e (some (.Name x p)) line env=pure false:=by
 cases e <;> first|rfl|(cases h)
theorem stepS_assign(r:Ev)(k:Bool)(n:Nat)(sc:Scope)(l:LocB)(x:Str)(p pos:Pos)(e:Expr):stepS r k n sc l (.Assign [.Name x p] e pos)=if okT sc (.Name x p)=false then none else (r.E k sc (purL l) e).bind fun d=>
  if mutNames.contains x=true then (if freshList e=true then match d with
   | .list ds=>some (.next,setL l x (.own ds))
   |_=>none else none)
  else some (.next,setL l x (.val d)):=rfl
theorem stepS_append(r:Ev)(k:Bool)(n:Nat)(sc:Scope)(l:LocB)(x m:Str)(xp ap cp pos:Pos)(a:Expr):stepS r k n sc l (.Expr (.Call (.Attribute (.Name x xp) m ap) [a] [] cp) pos)=
  if (ap.endLine==cp.line)=false∨isStarred a=true∨(x==("__debug__":Str))=true∨(x==("__classdict__":Str))=true then none else match l x with
  |some (.own ds)=>(r.E k sc (purL l) a).bind fun d=>
   if m="append" then (if ds.length≤lim then some (.next,setL l x (.own (ds++[d]))) else none)
   else if m="extend" then match d with
    | .list es=>if ds.length+es.length≤lim then some (.next,setL l x (.own (ds++es))) else none
    |_=>none
   else none
  |_=>none:=rfl
theorem assign_sound(S:Snd C n r){x:Str}{p pos:Pos}{e:Expr}{f:Fl}{Q:Flow→Shared→Prop}{E:Value→Shared→Prop}(fs:FS C n k A env Y OL l s)(h:stepS r k n env.scope l (.Assign [.Name x p] e pos)=some (f,l'))(q:Post C n k A env Y OL f l' s Q E):
  wpAny C.M A (exec (.Assign [.Name x p] e pos) env) Q E s:=by
 rw[stepS_assign] at h
 split at h
 ·cases h
 ·rename_i hok
  have hok:okT env.scope (.Name x p)=true:=by simpa using hok
  have hk:=okT_kind hok x (by simp[tgtNames])
  obtain⟨d,hd,h⟩:=zbs.mp h
  refine ne ?_
  split at h
  ·split at h
   ·rename_i hfr
    split at h
    ·rename_i ds
     cases h
     refine wpAny_Assign_Name (S.F k A env (olA OL++Y) (purL l) e ds s _ fs.pre hfr hd fun a vs s1 kp hn ho hc hr=> ?_) (fresh_noswap hfr x p _)
     refine fs.assignOwn kp hk hn ho hc hr fun s2 kw fs2=> ?_
     exact q s2 [(x,a)] (fun p hp=>by simp at hp;subst hp;exact hn) kw fs2
    ·cases h
   ·cases h
  ·cases h
   obtain⟨b,hb,hbt⟩:=swaps_cases (env:=env) e x p pos.line
   cases b with
   |false=>
    refine wpAny_Assign_Name (S.E.at fs.pre hd fun v s1 kp p1 rv=> ?_) hb
    refine(fs.kp kp).assign hk rv fun s2 kw fs2=> ?_
    exact q s2 [] (fun p hp=>by cases hp) ((KP.kw kp).trans kw) fs2
   |true=>
    obtain⟨hc,hl⟩:=hbt rfl
    rw[exec_Assign_Name_used _ _ _ _ hb]
    refine wpAny_bind (wpAny_standAt (wpAny_bind ?_))
    have own:Own C (frameW env) s.heap:=fs.own.sub fun a ha=>zmr _ ha
    have hwY:∀a∈frameW env,a∈olA OL++Y:=fun a ha=>zmr _ (fs.wY a ha)
    refine S.U k A env (olA OL++Y) (frameW env) (purL l) e d x p s _ fs.pre hc own hl zmS hwY hd fun s2 kw p2 hk2=>wpAny_pure ?_
    have kwz:KW C (ZO OL env) s s2:=kw.mono fun b hb=>zmr _ hb
    refine q s2 [] (fun p hp=>by cases hp) kwz ⟨p2.weak fun y dy e=> ?_,fs.hP,fs.cY,fs.own.kw fs.pre.gr.tab kw,fs.wY,fs.nY,fs.ap,fs.cw,fun y ds hy=> ?_⟩
    ·unfold purL setL at e
     unfold setL
     by_cases h:y=x
     ·subst h;simp at e;subst e;simp
     ·rw[if_neg h] at e ⊢;exact e
    ·unfold setL at hy
     split at hy
     ·cases hy
     ·rename_i hne
      obtain⟨a,vs,m,h1,h2,h3,h4⟩:=fs.lst y ds hy
      have hn:=fs.frame_notOwn h1
      have hPP:a≠C.P:=fs.own.ne a (zmL _ (List.mem_map_of_mem (f:=(·.2)) h1))
      exact⟨a,vs,m,h1,hk2 y _ hne h2,kw.heap hPP hn h3,h4.kw kw fs.pre.hP hwY⟩
theorem interactive_false(h:env.scope.kind= .function):interactive env=false:=by
 unfold interactive;rw[h];rfl
theorem append_sound(S:Snd C n r){x m:Str}{xp ap cp pos:Pos}{arg:Expr}{f:Fl}{Q:Flow→Shared→Prop}{E:Value→Shared→Prop}(fs:FS C n k A env Y OL l s)(h:stepS r k n env.scope l (.Expr (.Call (.Attribute (.Name x xp) m ap) [arg] [] cp) pos)=some (f,l'))(q:Post C n k A env Y OL f l' s Q E):
  wpAny C.M A (exec (.Expr (.Call (.Attribute (.Name x xp) m ap) [arg] [] cp) pos) env) Q E s:=by
 rw[stepS_append] at h
 split at h
 ·cases h
 ·rename_i hg
  simp only[not_or,Bool.not_eq_false,Bool.not_eq_true] at hg
  obtain⟨hline,hst,hx1,hx2⟩:=hg
  split at h
  ·rename_i ds hx
   obtain⟨d,hd,h⟩:=zbs.mp h
   obtain⟨a,vs,mm,h1,h2,h3,h4⟩:=fs.lst x ds hx
   refine ne (wpAny_Expr (E:=NE) ?_ (interactive_false fs.pre.eo.kind))
   have haP:a≠C.P:=fs.own.ne a (zmL _ (List.mem_map_of_mem (f:=(·.2)) h1))
   have hlim:lim=1000000:=rfl
   have hz:sizeLine=16777216:=by decide
   have hlen:=h4.length
   split at h
   ·rename_i hm
    split at h
    ·rename_i hl
     cases h
     subst hm
     refine lst_method fs.pre h2 h3 hline hst hx1 hx2 slot_list_append (by first|exact PySem.F.type_list_append|exact type_list_append) (S.E.at fs.pre hd fun v s1 kp p1 rv=> ?_)
     have fs1:=fs.kp kp
     have g3:=kp.heap haP h3
     have g4:=RDs.kp kp fs.pre.hP h4
     refine wpAny_list_append_plain (items:=vs.toArray) ⟨mm,g3⟩ (fun h' hp hs=> ?_) (by simp;omega)
     obtain⟨m',hp⟩:=hp
     have e:(vs.toArray.push v)=(vs++[v]).toArray:=by simp
     rw[e] at hp
     obtain⟨kw,fs2⟩:=fs1.grow (us:=vs++[v]) (es:=ds++[d]) h1 (h2.kp fs.pre.gr.tab kp) hp (g4.append (.cons rv .nil)) hs s1.toks nL
     exact q _ [] (fun p hp=>by cases hp) ((KP.kw kp).trans kw) fs2
    ·cases h
   ·split at h
    ·rename_i hm
     split at h
     ·rename_i es
      split at h
      ·rename_i hl
       cases h
       subst hm
       refine lst_method fs.pre h2 h3 hline hst hx1 hx2 PySem.F.slot_list_extend PySem.F.type_list_extend (S.E.at fs.pre hd fun v s1 kp p1 rv=> ?_)
       have fs1:=fs.kp kp
       have g3:=kp.heap haP h3
       have g4:=RDs.kp kp fs.pre.hP h4
       obtain⟨b,ws,mb,rfl,ho,rs⟩:=rv.list_inv
       have hlen2:=rs.length
       refine call_meets PySem.F.slot_list_extend ⟨_,g3,rfl⟩ PySem.F.entry_list_extend (PySem.F.args_list_extend_2 _ _) (PySem.AutoSeq1.list_extend_list_list_0 a vs.toArray mm b ws.toArray mb (by simp[Builtin.List.listTooLong];omega) (by simp;omega) (by simp;omega)) ⟨g3,(view_get ho).1,?_⟩
       have ho2:∃m',(s1.heap.update a (Obj.mapSeq fun x=>x++ws.toArray)).get? a=some (lstO (vs++ws) m'):=by
        have e:∃m',Obj.mapSeq (fun x=>x++ws.toArray) (lstO vs mm)=lstO (vs++ws) m':=by
         have e1:vs.toArray++ws.toArray=(vs++ws).toArray:=by simp
         exact⟨_,by rw[lstO,Obj.mapSeq,lstO,e1]⟩
        obtain⟨m',e⟩:=e
        refine⟨m',?_⟩
        rw[Heap.get?_update_self _ g3 (by rw[e];rfl),e]
       obtain⟨m',ho2⟩:=ho2
       obtain⟨kw,fs2⟩:=fs1.grow (us:=vs++ws) (es:=ds++es) h1 (h2.kp fs.pre.gr.tab kp) ho2 (g4.append rs) (Heap.SameBut.update ..) s1.toks nL
       exact q _ [] (fun p hp=>by cases hp) ((KP.kw kp).trans kw) fs2
      ·cases h
     ·cases h
    ·cases h
  ·cases h
end
section
variable{C:Cx}{n:Nat}{r:Ev}{k:Bool}{A:Around}{env:Env}{Y Y' W J:List Addr}{OL N:List (Str×Addr)}{l l':LocB}{s s' s'' s1 s2:Shared}{Z Z':Addr→Prop}
theorem stepS_raise(r:Ev)(k:Bool)(n:Nat)(sc:Scope)(l:LocB)(c:Str)(np cp pos:Pos)(a:Expr):stepS r k n sc l (.Raise (some (.Call (.Name c np) [a] [] cp)) none pos)=
  if (c≠"error_reply"∧c≠"error_proto")∨sc.names.lookup c≠some .globalImplicit∨isStarred a=true then none else (r.E k sc (purL l) a).map fun d=>(.exc c d,l):=rfl
theorem raise_sound(S:Snd C n r){c:Str}{np cp pos:Pos}{a:Expr}{f:Fl}{Q:Flow→Shared→Prop}{E:Value→Shared→Prop}(fs:FS C n k A env Y OL l s)(h:stepS r k n env.scope l (.Raise (some (.Call (.Name c np) [a] [] cp)) none pos)=some (f,l'))(q:Post C n k A env Y OL f l' s Q E):
  wpAny C.M A (exec (.Raise (some (.Call (.Name c np) [a] [] cp)) none pos) env) Q E s:=by
 rw[stepS_raise] at h
 split at h
 ·cases h
 ·rename_i hg
  simp only[not_or,Decidable.not_and_iff_not_or_not,Decidable.not_not,Bool.not_eq_true] at hg
  obtain⟨hc,hk,hst⟩:=hg
  obtain⟨d,hd,h⟩:=Option.map_eq_some_iff.mp h
  cases h
  obtain⟨clR,clP,clE,mR,mP,eR,eP,_⟩:=fs.pre.bs.exc
  obtain⟨cl,hm,he⟩:∃cl,C.mg c=some (.ref cl)∧ExcC C.g0 cl clE:=by
   rcases hc with rfl|rfl
   ·exact⟨_,mR,eR⟩
   ·exact⟨_,mP,eP⟩
  obtain⟨nm,qn,Nn,bs,hdct,sn,sub,ab,col,dd,k0,k1,k2,k3,k5,newId,Bn,inN,bmN,c0,dd0,cd,sl,mN,mE,Fn,hBn,hcl,hN,hmN,hclE,hNE,hmE⟩:=he
  have hdbg:(c==("__debug__":Str))=false:=by rcases hc with rfl|rfl <;> decide
  have T:OwnTail C.g0 excBM (.ref clE::excBM):= .own hclE hNE (hmE _ kD) .base
  refine wpAny_Raise_call_subU (C:=cl) (nm:=nm) (q:=qn) (bs:=bs) (hdct:=hdct) (sn:=sn) (sub:=sub) (ab:=ab) (col:=col) (dd:=dd) (k0:=k0) (k1:=k1) (k2:=k2) (k3:=k3) (k5:=k5) (N:=Nn) (bm:= .ref clE::excBM) (bmB:=excBM) (mN:=mN) Fn hBn F.excBase_Exception (T.hasType (b:=true) kD) fs.pre.a.handled (plain_any fun e he=>by simp at he;subst he;exact hst) (hmN _ kD) ?_
  refine ne (E_global fs.pre hk hm hdbg ⟨rfl,?_⟩)
  rw[starEach_plain hst]
  refine evalArgs_plain (spliced_cons (ne (S.E.at fs.pre hd fun v s1 kp p1 rv=>spliced_nil ?_)))
  have kg:=p1.gr.keep
  refine⟨rfl,by simp;decide,kg _ _ hcl,hN.keeps kg,T.keeps kg,fun h' e hme=> ?_⟩
  obtain⟨t,h1,h2,h3⟩:=hme.there
  have kp2:KP C s1 { s1 with heap:=h' }:=KP.of nL hme.keeps
  have kw:KW C (ZO OL env) s { s1 with heap:=h' }:=(kp.trans kp2).kw
  have rv2:=RD.kp kp2 fs.pre.hP rv
  exact q e t cl v _ kw (newIn kp.kw fs.pre.gr.tab (Z:=fun _=>False) hme.new) hm h1 (newIn kp.kw fs.pre.gr.tab (Z:=fun _=>False) h2) h3 (Mine.R.mono (view_sub fun a ha=>zmr _ ha) rv2) (by
   obtain⟨m,hm⟩:=p1.fm.ns
   exact⟨m,hm.keeps hme.keeps⟩)
theorem return_sound(S:Snd C n r){e:Expr}{pos:Pos}{f:Fl}{Q:Flow→Shared→Prop}{E:Value→Shared→Prop}(fs:FS C n k A env Y OL l s)(h:stepS r k n env.scope l (.Return (some e) pos)=some (f,l'))(q:Post C n k A env Y OL f l' s Q E):
  wpAny C.M A (exec (.Return (some e) pos) env) Q E s:=by
 obtain⟨d,hd,h⟩:=Option.map_eq_some_iff.mp (show (r.E k env.scope (allL l) e).map (fun d=>(Fl.ret d,l))=some (f,l') from h)
 cases h
 exact ne (wpAny_Return_some (S.E.at fs.all hd fun v s1 kp p1 rv=>q v s1 kp.kw rv))
theorem if_sound(S:Snd C n r)(a1:AOk (n+1) A){t:Expr}{a b:List Stmt}{pos:Pos}{f:Fl}{Q:Flow→Shared→Prop}{E:Value→Shared→Prop}(fs:FS C n k A env Y OL l s)(h:stepS r k n env.scope l (.If t a b pos)=some (f,l'))(q:Post C n k A env Y OL f l' s Q E):
  wpAny C.M A (exec (.If t a b pos) env) Q E s:=by
 obtain⟨c,hc,h⟩:=zbs.mp (show (Bt r k env.scope (allL l) 4 t).bind (fun c=>if c=true then Ssl r k env.scope l a else Ssl r k env.scope l b)=some (f,l') from h)
 refine wpAny_If (ne (Bt_sound S.E a1 4 fs.all hc fun s1 kp p1=> ?_))
 have t0:=fs.pre.gr.tab
 cases c with
 |true=>exact Ssl_sound S.S a OL l l' f s1 Q E (fs.kp kp) h (q.kp t0 kp)
 |false=>exact Ssl_sound S.S b OL l l' f s1 Q E (fs.kp kp) h (q.kp t0 kp)
theorem KW.ofLoop(kp:KP C s s1)(hn:∀a∈J,s.heap.get? a=none)(h:LoopTo C J OL env s1 s2):KW C (ZO OL env) s s2:=by
 obtain⟨sm,kw,kj⟩:=h
 exact((KP.kw kp).trans kw).lastJ hn kj fun b hb=>hb.symm
theorem its_sound(S:Snd C n r)(a1:AOk (n+1) A){t i:Expr}{its:List D}{E:Value→Shared→Prop}{Q:Value→Shared→Prop}(hE:(isTupT t|| !isEnumE i)=true)(fs:FS C n k A env Y OL l s)(h:forIts r k env.scope (purL l) i=some its)
  (q:∀I J s',KP C s s'→(∀a∈J,s.heap.get? a=none)→FS C n k A env (J++Y) OL l s'→Own C J s'.heap→SrcR C A t (olA OL++(J++Y)) I J its s'.heap→Q (.ref I) s'):
  wpAny C.M A (eval i env) (fun x s₁=>wpAny C.M A (pyIter x) Q E s₁) E s:=by
 have hdef:forIts r k env.scope (purL l) i=(r.E k env.scope (purL l) i).bind iterD∨∃f p e qp,i= .Call (.Name f p) [e] [] qp∧f="enumerate"∧forIts r k env.scope (purL l) i=(if env.scope.names.lookup f=some .globalImplicit∧isStarred e=false then (match r.E k env.scope (purL l) e with
   |some (.tup ds)=>if ds.length≤1000 then some (ds.mapIdx fun k d=>D.tup [.int k,d]) else none
   |_=>none) else none):=by
  unfold forIts
  split
  ·rename_i f p e qp
   by_cases hf:f="enumerate"
   ·exact .inr ⟨f,p,e,qp,rfl,hf,by rw[if_pos hf];first|done|rfl⟩
   ·exact .inl (by rw[if_neg hf])
  ·exact .inl rfl
 rcases hdef with hd|⟨f,p,e,qp,rfl,hf,hd⟩
 ·rw[hd] at h
  obtain⟨d,h1,h2⟩:=zbs.mp h
  refine ne (S.E.at fs.pre h1 fun v s1 kp p1 rv=>ne (iter_sound p1.a.handled p1.lt rv h2 fun h' hk it=> ?_))
  have fs1:=fs.kp kp
  have hn1:s1.heap.get? s1.heap.objs.size=none:=newAddr _
  obtain⟨oi,hoi,_⟩:=it.obj
  have kp2:KP C s1 { s1 with heap:=h' }:=KP.of nL hk
  refine q s1.heap.objs.size [s1.heap.objs.size] _ (kp.trans kp2) (fun a ha=>by simp at ha;subst ha;exact newIn kp.kw fs.pre.gr.tab (Z:=fun _=>False) hn1) (fs1.moreJ (J:=[s1.heap.objs.size]) kp2 (fun a ha=>by simp at ha;subst ha;exact hn1) fun a ha=>by simp at ha;subst ha;exact⟨oi,hoi⟩)
   (Own.fresh p1.gr.tab (fun a ha e=> ?_) hk (fun a ha=>by simp at ha;subst ha;exact hn1) fun a ha=>by simp at ha;subst ha;exact⟨oi,hoi⟩) (SrcR.ofIt (by simp) (it.perm fun b=> ?_))
  ·simp at ha;subst ha
   obtain⟨o,ho⟩:=p1.hYs C.P p1.hP
   rw[←e,hn1] at ho;cases ho
  ·simp only[List.mem_append,List.mem_cons,List.mem_singleton,List.not_mem_nil,or_false]
   constructor
   ·rintro (h|h|h)
    ·exact .inr (.inl h)
    ·exact .inl h
    ·exact .inr (.inr h)
   ·rintro (h|h|h)
    ·exact .inr (.inl h)
    ·exact .inl h
    ·exact .inr (.inr h)
 ·rw[hd] at h
  split at h
  ·rename_i hkk
   obtain⟨hkk,hne⟩:=hkk
   split at h
   ·rename_i ds he
    split at h
    ·rename_i hl
     cases h
     subst hf
     refine ne (Call_Name rfl (E_builtin (v:= .type "enumerate") fs.pre hkk kD (by rfl) kD ?_))
     refine callWith_type1 ?_ (starEach_plain hne) (by rfl)
     rw[starEach_plain hne]
     refine spliced_cons (S.E.at fs.pre he fun v s1 kp p1 rv=>spliced_nil ?_)
     obtain⟨a,vs,m,rfl,ho,rs⟩:=rv.tup_inv
     obtain⟨ho,hna⟩:=view_get ho
     refine call_enumT ho fun h' hEn hit hsz hk=> ?_
     refine wpAny_pyIter_enum hEn ?_
     have fs1:=fs.kp kp
     have hn1:s1.heap.get? s1.heap.objs.size=none:=newAddr _
     have hn2:s1.heap.get? (s1.heap.objs.size+1)=none:=none_of fun⟨o,e⟩=>absurd (Heap.lt_size e) (Nat.not_lt.mpr (Nat.le_succ _))
     obtain⟨oi,hoi,_⟩:=id hit
     have kp2:KP C s1 { s1 with heap:=h' }:=KP.of nL hk
     have hJn:∀a∈[s1.heap.objs.size+1,s1.heap.objs.size],s1.heap.get? a=none:=fun a ha=>by
      simp at ha;rcases ha with rfl|rfl
      ·exact hn2
      ·exact hn1
     have hJe:∀a∈[s1.heap.objs.size+1,s1.heap.objs.size],∃o,h'.get? a=some o:=fun a ha=>by
      simp at ha;rcases ha with rfl|rfl
      ·exact⟨_,hEn⟩
      ·exact⟨_,hoi⟩
     have hlt:=Heap.lt_size ho
     have hTup:∃ts kd tp,t= .Tuple ts kd tp:=by
      have hi:isEnumE (.Call (.Name "enumerate" p) [e] [] qp)=true:=rfl
      rw[hi] at hE
      cases t <;> first|exact⟨_,_,_,rfl⟩|(simp[isTupT] at hE)
     obtain⟨ts,kd,tp,rfl⟩:=hTup
     refine q (s1.heap.objs.size+1) [s1.heap.objs.size+1,s1.heap.objs.size] _ (kp.trans kp2) (fun a ha=>newIn kp.kw fs.pre.gr.tab (Z:=fun _=>False) (hJn a ha)) (fs1.moreJ kp2 hJn hJe) (Own.fresh p1.gr.tab (fun a ha e=> ?_) hk hJn hJe)
      (SrcR.enumT p1.a.handled hEn hit (hk _ _ ho) (Nat.succ_ne_self _) (Nat.ne_of_lt (Nat.lt_succ_of_lt hlt)) (Nat.ne_of_lt hlt) ?_ (RDs.moreL kp2 p1.hP hJn (fun b hb=> ?_) rs))
     ·obtain⟨o,ho⟩:=p1.hYs C.P p1.hP
      rw[←e,hJn a ha] at ho;cases ho
     ·intro hm
      simp only[List.mem_append] at hm hna
      rcases hm with h|h|h
      ·exact hna (.inl h)
      ·rw[hJn a h] at ho;cases ho
      ·exact hna (.inr h)
     ·simp only[List.mem_append] at hb ⊢
      rcases hb with h|h|h
      ·exact .inr (.inl h)
      ·exact .inl h
      ·exact .inr (.inr h)
    ·cases h
   ·cases h
  ·cases h
theorem stepS_for(r:Ev)(k:Bool)(n:Nat)(sc:Scope)(l:LocB)(t i:Expr)(body orelse:List Stmt)(pos:Pos):stepS r k n sc l (.For t i body orelse pos)=
  if (okT sc t&& !isSetE i&&(isTupT t|| !isEnumE i))=false then none else (forIts r k sc (purL l) i).bind fun its=>(forL r k sc t body l its).bind fun x=>match x with
  |(.next,l')=>(Ssl r k sc l' orelse).bind noExc
  |(.brk,l')=>some (.next,l')
  |x=>some x:=rfl
theorem for_sound(S:Snd C n r)(a1:AOk (n+1) A){t i:Expr}{body orelse:List Stmt}{pos:Pos}{f:Fl}{Q:Flow→Shared→Prop}{E:Value→Shared→Prop}(fs:FS C n k A env Y OL l s)(h:stepS r k n env.scope l (.For t i body orelse pos)=some (f,l'))(q:Post C n k A env Y OL f l' s Q E):
  wpAny C.M A (exec (.For t i body orelse pos) env) Q E s:=by
 rw[stepS_for] at h
 split at h
 ·cases h
 ·rename_i hg
  simp only[Bool.not_eq_false,Bool.and_eq_true,Bool.not_eq_true'] at hg
  obtain⟨⟨hT,hset⟩,hE⟩:=hg
  obtain⟨its,h1,h⟩:=zbs.mp h
  obtain⟨⟨f1,l1⟩,h2,h⟩:=zbs.mp h
  have t0:=fs.pre.gr.tab
  refine wpAny_For (its_sound S a1 hE fs h1 fun I J s1 kp hn fs1 oJ src=> ?_) (notFolded hset env)
  have hJ:∀a∈J,a∉Y:=fun a ha hm=>by
   obtain⟨o,e⟩:=fs.pre.hYs a (zmr _ hm)
   rw[hn a ha] at e;cases e
  have fresh:∀(N:List (Str×Addr)),(∀p∈N,s1.heap.get? p.2=none)→∀p∈N,s.heap.get? p.2=none:=fun N hN p hp=>newIn kp.kw t0 (Z:=fun _=>False) (hN p hp)
  refine forLoop_sound S hT h2 fs1 src hJ oJ fs.hP fs.cY fs.wY (fun hf s2 N hN lt fs2=> ?_) (fun hf s2 N hN lt fs2=> ?_) fun d hf v s2 lt rd=> ?_
  ·subst hf
   obtain⟨⟨f2,l2⟩,h3,h4⟩:=zbs.mp h
   have kw:=KW.ofLoop kp hn lt
   refine Ssl_sound S.S orelse (N++OL) l1 l2 f2 s2 _ _ fs2 h3 ?_
   have q2:Post C n k A env Y (N++OL) f l' s2 Q E:=q.step t0 (fresh N hN) kw
   cases f2 with
   |next=>cases h4;exact q2
   |brk=>cases h4;exact q2
   |cont=>cases h4;exact q2
   |ret d=>cases h4;exact q2
   |exc c d=>cases h4
  ·subst hf
   cases h
   exact q s2 N (fresh N hN) (KW.ofLoop kp hn lt) fs2
  ·subst hf
   cases h
   exact q v s2 (KW.ofLoop kp hn lt) rd
end
section
variable{C:Cx}{n:Nat}{r:Ev}{k:Bool}{A:Around}{env:Env}{Y Y' W J:List Addr}{OL N:List (Str×Addr)}{l l':LocB}{s s' s'' s1 s2:Shared}{Z Z':Addr→Prop}{fns:List (Str×Fn)}{glob:List (Str×D)}
theorem stepS_while(r:Ev)(k:Bool)(n:Nat)(sc:Scope)(l:LocB)(t:Expr)(body:List Stmt)(pos:Pos):stepS r k n sc l (.While t body [] pos)=
  (Bt r k sc (allL l) 4 t).bind fun b=>if b=true then (Ssl r k sc l body).bind fun x=>match x with
   |(.next,l')=>match n with
    |0=>none
    |_+1=>r.S k sc l' (.While t body [] pos)
   |(.brk,l')=>some (.next,l')
   |(.ret d,l')=>some (.ret d,l')
   |_=>none
  else some (.next,l):=by
 show (do if←Bt r k sc (allL l) 4 t then _ else _)=_
 rfl
def WInv(C:Cx)(n:Nat)(fns:List (Str×Fn))(glob:List (Str×D))(k:Bool)(A:Around)(env:Env)(Y:List Addr)(OL:List (Str×Addr))(s:Shared)(st:Stmt)(f:Fl)(l1:LocB)(m:Nat)(s1:Shared):Prop:=
 ∃l' N,m≤n∧stepS (ev fns glob m) k m env.scope l' st=some (f,l1)∧(∀p∈N,s.heap.get? p.2=none)∧FS C n k A env Y (N++OL) l' s1∧KW C (ZO OL env) s s1
theorem while_sound(H:∀m,m≤n→Snd C m (ev fns glob m))(a1:AOk (n+1) A){t:Expr}{body:List Stmt}{pos:Pos}{f:Fl}{Q:Flow→Shared→Prop}{E:Value→Shared→Prop}(fs:FS C n k A env Y OL l s)(h:stepS (ev fns glob n) k n env.scope l (.While t body [] pos)=some (f,l'))(q:Post C n k A env Y OL f l' s Q E):
  wpAny C.M A (exec (.While t body [] pos) env) Q E s:=by
 have t0:=fs.pre.gr.tab
 refine wpAny_While (codeAny_whileLoop (WInv C n fns glob k A env Y OL s (.While t body [] pos) f l') ?_ n ⟨l,[],Nat.le_refl _,h,fun p hp=>(by cases hp),fs,KW.refl s⟩)
 rintro m s1 ⟨l1,N,hm,h,hN,fs1,kw1⟩
 have S:=H m hm
 rw[stepS_while] at h
 obtain⟨b,hb,h⟩:=zbs.mp h
 refine ne (Bt_sound S.E (a1.mono (Nat.succ_le_succ hm)) 4 (fs1.lo hm).all hb fun s2 kp p2=> ?_)
 have kw2:KW C (ZO OL env) s s2:=kw1.trans kp.kw
 cases b with
 |false=>
  simp only[Bool.false_eq_true,if_false] at h ⊢
  cases h
  exact wpAny_execs_nil (q s2 N hN kw2 (fs1.kp kp))
 |true=>
  simp only[if_true] at h ⊢
  obtain⟨⟨f3,l3⟩,h3,h⟩:=zbs.mp h
  refine Ssl_sound S.S body (N++OL) l1 l3 f3 s2 _ _ ((fs1.kp kp).lo hm) h3 ?_
  have up:∀(N2:List (Str×Addr)),(∀p∈N2,s2.heap.get? p.2=none)→∀p∈N2++N,s.heap.get? p.2=none:=fun N2 hN2 p hp=>by
   rcases zapp.mp hp with hp|hp
   ·exact newIn kw2 t0 (hN2 p hp)
   ·exact hN p hp
  cases f3 with
  |next=>
   intro s4 N2 hN2 kw4 fs4
   cases m with
   |zero=>cases h
   |succ m=>
    refine⟨m,Nat.lt_succ_self m,l3,N2++N,Nat.le_of_succ_le hm,h,up N2 hN2,by rw[List.append_assoc];exact fs4.hi fs.pre.a,kw2.transNew kw4 (zoNew hN)⟩
  |brk=>
   cases h
   intro s4 N2 hN2 kw4 fs4
   exact q s4 (N2++N) (up N2 hN2) (kw2.transNew kw4 (zoNew hN)) (by rw[List.append_assoc];exact fs4.hi fs.pre.a)
  |cont=>cases h
  |ret d=>
   cases h
   intro v s4 kw4 rd
   exact q v s4 (kw2.transNew kw4 (zoNew hN)) rd
  |exc c d=>cases h
theorem SS_step(H:∀m,m≤n→Snd C m (ev fns glob m)):SS C (n+1) (ev fns glob (n+1)):=by
 intro k A env Y OL l st f l' s Q E fs h q
 have a1:=fs.pre.a
 have S:=H n nL
 have fs0:=fs.lo (Nat.le_succ n)
 have q0:=Post.lo a1 q (m:=n)
 have h:stepS (ev fns glob n) k n env.scope l st=some (f,l'):=h
 unfold stepS at h
 split at h
 ·exact assign_sound S fs0 h q0
 ·exact append_sound S fs0 h q0
 ·exact if_sound S a1 fs0 h q0
 ·exact for_sound S a1 fs0 h q0
 ·exact while_sound H a1 fs0 (by rw[stepS_while];exact h) q0
 ·exact return_sound S fs0 h q0
 ·cases h
  exact wpAny_Break (q s [] (fun p hp=>by cases hp) (KW.refl s) fs)
 ·exact raise_sound S fs0 h q0
 ·cases h
end
theorem zip_lookup_some{ns:List Str}{vs:List Value}(hl:ns.length=vs.length):∀n∈ns,((ns.zip vs).lookup n).isSome=true:=by
 induction ns generalizing vs with
 |nil=>intro n hn;cases hn
 |cons m ns ih=>
  match vs,hl with
  |v::vs,hl=>
   intro n hn
   rw[List.zip_cons_cons,List.lookup_cons]
   by_cases e:n=m
   ·subst e;simp
   ·have e':(n==m)=false:=by simpa using e
    rw[e']
    rcases zcon.mp hn with h|h
    ·exact absurd h e
    ·exact ih (by simpa using hl) n h
theorem zip_filterMap{ns:List Str}{vs:List Value}(hl:ns.length=vs.length)(hn:ns.Nodup):ns.filterMap (fun n=>((ns.zip vs).lookup n).map (n,·))=ns.zip vs:=by
 have key:∀(ns:List Str) (vs:List Value) (L:List (Str×Value)),ns.length=vs.length→ns.Nodup→(∀p∈ns.zip vs,L.lookup p.1=some p.2)→ns.filterMap (fun n=>(L.lookup n).map (n,·))=ns.zip vs:=by
  intro ns
  induction ns with
  |nil=>intro vs L _ _ _;rfl
  |cons n ns ih=>
   intro vs L hl hn h
   match vs,hl with
   |v::vs,hl=>
    rw[List.filterMap_cons,h (n,v) zmS,List.zip_cons_cons]
    simp only[Option.map_some]
    rw[ih vs L (by simpa using hl) (znco.mp hn).2 fun p hp=>h p (zmC _ hp)]
 refine key ns vs _ hl hn ?_
 have l2:∀(ns:List Str) (vs:List Value),ns.Nodup→∀p∈ns.zip vs,(ns.zip vs).lookup p.1=some p.2:=by
  intro ns
  induction ns with
  |nil=>intro vs _ p hp;cases hp
  |cons n ns ih=>
   intro vs hn p hp
   match vs with
   |[]=>cases hp
   |v::vs=>
    rw[List.zip_cons_cons] at hp ⊢
    rcases zcon.mp hp with rfl|hp
    ·simp
    ·have hk:p.1∈ns:=(List.of_mem_zip hp).1
     have hne:p.1≠n:=fun e=>(znco.mp hn).1 (e▸hk)
     have e':(p.1==n)=false:=by simpa using hne
     rw[List.lookup_cons,e']
     exact ih vs (znco.mp hn).2 p hp
 exact l2 ns vs hn
theorem bindArgs_plain{fd:FuncData}{vs:List Value}(hp:plainP fd.params=true)(hd:fd.defaults= .none)(hl:fd.params.args.length=vs.length):bindArgs fd ⟨vs,[]⟩=pure ((fd.params.args.map (·.arg)).zip vs):=by
 unfold plainP at hp
 simp only[Bool.and_eq_true,decide_eq_true_eq,List.isEmpty_iff,Option.isNone_iff_eq_none] at hp
 obtain⟨⟨⟨⟨h1,h2⟩,h3⟩,h4⟩,h5⟩:=hp
 have hl':(fd.params.args.map (·.arg)).length=vs.length:=by simpa using hl
 unfold bindArgs
 have hs:seqItems? Value.none=pure none:=rfl
 have hmiss:((List.take (fd.params.args.map (·.arg)).length (fd.params.args.map (·.arg))).filter fun n=>(((fd.params.args.map (·.arg)).zip vs).lookup n).isNone)=[]:=by
  rw[List.take_length]
  refine List.filter_eq_nil_iff.mpr fun n hn=> ?_
  have:=zip_lookup_some hl' n hn
  rw[Option.isSome_iff_exists] at this
  obtain⟨v,e⟩:=this
  rw[e];simp
 have hz:=zip_filterMap hl' h5
 simp only[h1,h2,h3,h4,hd,hs,List.map_nil,List.nil_append,List.append_nil,List.forIn_nil,pure_bind,Option.getD_none,List.length_nil,Nat.sub_zero,List.drop_nil,Array.toList_empty]
 have hgt:(decide (vs.length > (fd.params.args.map (·.arg)).length)&&(none:Option Arg).isNone)=false:=by rw[hl'];simp
 rw[hgt]
 simp only[Bool.false_eq_true,if_false,pure_bind,hmiss,List.isEmpty_nil,Bool.not_true,List.drop_length,List.forIn_nil,List.zip_nil_right,hz]
section
variable{C:Cx}{n:Nat}{r:Ev}{k:Bool}{A:Around}{env:Env}{Y Y' W J:List Addr}{OL N:List (Str×Addr)}{l l':LocB}{s s' s'' s1 s2:Shared}{Z Z':Addr→Prop}
theorem bindP_lookup:∀{xs:List Str} {ds:List D} {l:LocB},bindP xs ds=some l→∀x,l x=((xs.zip ds).lookup x).map .val
 |[],[],l,h,x=>by cases h;rfl
 |[],_::_,l,h,x=>by cases h
 |_::_,[],l,h,x=>by cases h
 |y::xs,d::ds,l,h,x=>by
  obtain⟨l0,h0,rfl⟩:=Option.map_eq_some_iff.mp (show (bindP xs ds).map (fun l=>setL l y (.val d))=some l from h)
  unfold setL
  rw[List.zip_cons_cons,List.lookup_cons]
  by_cases e:x=y
  ·subst e;simp
  ·have e':(x==y)=false:=by simpa using e
   rw[if_neg e,e',bindP_lookup h0 x]
theorem bindP_len:∀{xs:List Str} {ds:List D} {l:LocB},bindP xs ds=some l→xs.length=ds.length
 |[],[],l,h=>rfl
 |[],_::_,l,h=>by cases h
 |_::_,[],l,h=>by cases h
 |y::xs,d::ds,l,h=>by
  obtain⟨l0,h0,_⟩:=Option.map_eq_some_iff.mp (show (bindP xs ds).map (fun l=>setL l y (.val d))=some l from h)
  rw[List.length_cons,List.length_cons,bindP_len h0]
theorem zip_R{H:HV}:∀{xs:List Str} {vs:List Value} {ds:List D},Rs C.prog C.w H vs ds→∀x d,(xs.zip ds).lookup x=some d→∃v,(xs.zip vs).lookup x=some v∧R C.prog C.w H v d
 |[],_,_,_,x,d,h=>by cases h
 |y::xs,[],_,.nil,x,d,h=>by cases h
 |y::xs,v::vs,e::ds,.cons r rs,x,d,h=>by
  rw[List.zip_cons_cons,List.lookup_cons] at h ⊢
  cases hb:(x==y) with
  |true=>rw[hb] at h;cases h;exact⟨v,rfl,r⟩
  |false=>rw[hb] at h;exact zip_R rs x d h
theorem lookup_reverse{L:List (Str×Value)}(hn:(L.map (·.1)).Nodup)(x:Str):L.reverse.lookup x=L.lookup x:=by
 induction L with
 |nil=>rfl
 |cons p L ih=>
  obtain⟨y,v⟩:=p
  obtain⟨h1,h2⟩:=znco.mp (show (y::L.map (·.1)).Nodup from hn)
  rw[List.reverse_cons,List.lookup_append,ih h2,List.lookup_cons]
  cases hb:(x==y) with
  |true=>
   have e:x=y:=beq_iff_eq.mp hb
   subst e
   have:L.lookup x=none:=by
    rw[List.lookup_eq_none_iff]
    intro p hp
    simp only[bne_iff_ne,ne_eq]
    intro e
    exact h1 (zmap.mpr ⟨p,hp,e.symm⟩)
   rw[this];simp
  |false=>simp[List.lookup_cons,hb]
theorem enter_fs{env:Env}{sc:Scope}{L:Addr}{qual:Str}{func:Option Addr}{code:Value}{h':Heap}{tk:Nat}{l0:LocB}{names:List Str}{vs:List Value}{as:List D}(bs:Base C)(g:Gr C s)(hP:C.P∈Y)(hY:∀a∈Y,C.g0.get? a=none)(hYs:∀a∈Y,∃o,s.heap.get? a=some o)
  (ha:AOk n A) (kind:sc.kind= .function) (hfree:∀x,sc.names.lookup x≠some .free) (hnd:(names.zip vs).map (·.1) |>.Nodup) (hL:L=s.heap.objs.size) (he:env=newEnv sc L mainGlobals (cellsFrom (L+1) sc.names []) qual func code none builtinsNs)
  (ht:s.toks≤tk) (hk:∀b o,s.heap.get? b=some o→h'.get? b=some o) (fm:Frm env h') (hv:∀x v,(names.zip vs).reverse.lookup x=some v→VarAt env h' x v) (hb:bindP names as=some l0) (hr:RDs C s.heap Y vs as)
  (hlam:k=true→env.code= .ref C.c∧env.qual++("<lambda>":Str)=C.lq):
  KP C s { s with heap:=h',toks:=tk }∧FS C n k A env (frameW env++Y) [] l0 { s with heap:=h',toks:=tk }∧(∀a∈frameW env,s.heap.get? a=none)∧(∀p∈env.cells,p.2∈frameW env):=by
 have kp:KP C s { s with heap:=h',toks:=tk }:=KP.of ht hk
 have hloc:env.locals=L:=by rw[he];rfl
 have hcells:env.cells=cellsFrom (L+1) sc.names []:=by rw[he];rfl
 have hsc:env.scope=sc:=by rw[he];rfl
 have wf:=cells_wf sc.names (s.heap.push (lstO [] 0)) [] (fun p hp=>by cases hp) List.Pairwise.nil
 rw[Heap.size_push,←hL] at wf
 have hge:∀q∈env.cells,L+1≤q.2:=fun q hq=>by
  rcases wf.2.2 q (hcells▸hq) with h|h
  ·cases h
  ·exact h
 have hcW:∀q∈env.cells,q.2∈frameW env:=fun q hq=>zmC _ (zfil.mpr ⟨List.mem_map_of_mem (f:=(·.2)) hq,by rw[hloc];exact decide_eq_true (hge q hq)⟩)
 have hWn:∀a∈frameW env,s.heap.get? a=none:=fun a ha=>by
  have hge:L≤a:=by
   rcases zcon.mp ha with e|ha
   ·rw[e,hloc];exact Nat.le_refl _
   ·have:=of_decide_eq_true (zfil.mp ha).2
    rw[hloc] at this
    exact Nat.le_of_lt this
  exact none_of fun⟨o,e⟩=>by
   have:=Heap.lt_size e
   rw[←hL] at this
   exact absurd hge (Nat.not_le.mpr this)
 have hWe:∀a∈frameW env,∃o,h'.get? a=some o:=fun a ha=>by
  rcases zcon.mp ha with e|ha
  ·obtain⟨m,o,es,ep,ho,_⟩:=fm.ns
   exact⟨o,e▸ho⟩
  ·obtain⟨q,hq,rfl⟩:=zmap.mp (zfil.mp ha).1
   obtain⟨v,o,ho,_⟩:=fm.cl q hq
   exact⟨o,ho⟩
 have hWP:∀a∈frameW env,a≠C.P:=fun a ha e=>by
  obtain⟨o,ho⟩:=hYs C.P hP
  rw[←e,hWn a ha] at ho;cases ho
 have rs':RDs C h' (frameW env++Y) vs as:=RDs.moreL (J:=frameW env) kp hP hWn (fun b hb=>zapp.mp hb) hr
 refine⟨kp,⟨⟨bs,ha,⟨by rw[hsc];exact kind,by rw[he];rfl,by rw[he];rfl,fun x hx=> ?_,hlam⟩,g.kp bs kp,zmr _ (zmr _ hP),fun a ha=> ?_,fun a ha=> ?_,fm,fun p hp=>zmr _ (zmL _ (hcW p hp)),fun x d hx=> ?_⟩,
  zmr _ hP,fun p hp=>zmL _ (hcW p hp),Own.fresh g.tab hWP hk hWn hWe,fun a ha=>zmL _ ha,fun p hp=>(by cases hp),List.Pairwise.nil,fun x c hx hc=>hcW _ (mem_of_lookup hc),fun x ds hx=> ?_⟩,hWn,hcW⟩
 ·rw[hcells]
  refine cells_isSome _ _ _ _ (.inl ?_)
  rcases hx with hx|hx
  ·rw[←hsc];exact hx
  ·have hx':env.scope.names.lookup x=some .free:=hx
   rw[hsc] at hx'
   exact absurd hx' (hfree x)
 ·rcases zapp.mp (show a∈frameW env++Y from ha) with h|h
  ·exact none_of fun⟨o,ho⟩=>by
    have:=hWn a h
    rw[g.keep _ o ho] at this;cases this
  ·exact hY a h
 ·rcases zapp.mp (show a∈frameW env++Y from ha) with h|h
  ·exact hWe a h
  ·obtain⟨o,ho⟩:=hYs a h
   exact⟨o,hk _ _ ho⟩
 ·unfold purL at hx
  rw[bindP_lookup hb x] at hx
  cases hz:(names.zip as).lookup x with
  |none=>rw[hz] at hx;cases hx
  |some d'=>
   rw[hz] at hx;cases hx
   obtain⟨v,hv1,rv⟩:=zip_R rs' x d hz
   exact⟨v,hv x v (by rw[lookup_reverse hnd];exact hv1),rv⟩
 ·rw[bindP_lookup hb x] at hx
  cases hz:(names.zip as).lookup x with
  |none=>rw[hz] at hx;cases hx
  |some d'=>rw[hz] at hx;cases hx
structure OkFn(f:Fn):Prop where
 plain:plainP f.params=true
 co:f.scope.isCoroutine=false
 gen:f.scope.isGenerator=false
 kind:f.scope.kind= .function
 par:∀x∈f.names,f.scope.names.lookup x=some .local∨f.scope.names.lookup x=some .cell
 free:∀x,f.scope.names.lookup x≠some .free
theorem okFn_of{f:Fn}(h:okFn f=true):OkFn f:=by
 unfold okFn at h
 simp only[Bool.and_eq_true,Bool.not_eq_true',decide_eq_true_eq,List.all_eq_true] at h
 obtain⟨⟨⟨⟨⟨h1,h2⟩,h3⟩,h4⟩,h5⟩,h6⟩:=h
 exact⟨h1,h2,h3,h4,h5,fun x hx=>h6 _ (mem_of_lookup' hx) rfl⟩
structure CRoom(n:Nat)(A:Around):Prop where
 handled:A.handled=none
 depth:A.depth+1+3 * n<900
 units:A.units+4+40 * n<9000
theorem CRoom.deeper{n:Nat}{A:Around}{env:Env}(h:CRoom n A):AOk n (A.deeper env):=⟨h.handled,h.depth,by have:=h.units;show A.units+3+40 * n<9000;omega⟩
theorem AOk.room{n:Nat}{A:Around}(h:AOk (n+1) A):CRoom n A:=⟨h.handled,by have:=h.depth;omega,by have:=h.units;omega⟩
theorem newFrame{fn:Fn}{a:Addr}{qual:Str}{code:Value}{as:List D}{vs:List Value}{l0:LocB}{B:Around}{Q:Env→Shared→Prop}(ok:OkFn fn)(bs:Base C)(g:Gr C s)(hP:C.P∈Y)(hY:∀a∈Y,C.g0.get? a=none)(hYs:∀a∈Y,∃o,s.heap.get? a=some o)
  (hA:∀env,AOk n (A.deeper env)) (hb:bindP fn.names as=some l0) (hr:RDs C s.heap Y vs as) (hlam:k=true→code= .ref C.c∧qual++("<lambda>":Str)=C.lq)
  (q:∀env s',KP C s s'→FS C n k (A.deeper env) env (frameW env++Y) [] l0 s'→(∀a∈frameW env,s.heap.get? a=none)→(∀p∈env.cells,p.2∈frameW env)→env.scope=fn.scope→env.frame=some env.locals→Q env s'):
  wpAny C.M B (newFunctionEnv fn.scope mainGlobals [] (fn.names.zip vs) qual (some a) code none builtinsNs) Q NE s:=by
 have hlen:fn.names.length=vs.length:=(bindP_len hb).trans hr.length.symm
 have hnd:((fn.names.zip vs).map (·.1)).Nodup:=by
  rw[List.map_fst_zip kO]
  have h1:=ok.plain
  unfold plainP at h1
  simp only[Bool.and_eq_true,decide_eq_true_eq] at h1
  exact h1.2
 refine newEnv_sound ok.kind (fun x hx=>ok.par _ (List.of_mem_zip hx).1) (fun x hx=>absurd hx (ok.free x)) (fun p hp=>by cases hp) List.Pairwise.nil fun env h' tk he ht hk fm hv=> ?_
 obtain⟨kp,fs,hn,hcn⟩:=enter_fs (A:=A.deeper env) bs g hP hY hYs (hA env) ok.kind ok.free hnd rfl he ht hk fm hv hb hr (fun hk=>by rw[he];exact hlam hk)
 exact q env _ kp fs hn hcn (by rw[he];rfl) (by rw[he];rfl)
theorem call_sound(S:SS C n r){f:Str}{fn:Fn}{a:Addr}{as:List D}{vs:List Value}{d:D}{l0:LocB}{Q E:Value→Shared→Prop}(hf:C.fns.lookup f=some fn)(hm:C.mg f=some (.ref a))(bs:Base C)(g:Gr C s)(hP:C.P∈Y)(hY:∀a∈Y,C.g0.get? a=none)(hYs:∀a∈Y,∃o,s.heap.get? a=some o)
  (hA:CRoom n A) (hb:bindP fn.names as=some l0) (hs:Ssl r false fn.scope l0 fn.body=some (.ret d,l')) (hr:RDs C s.heap Y vs as) (q:∀v s',KP C s s'→RD C s'.heap Y v d→Q v s'):
  wpAny C.M A (call (.ref a) vs) Q E s:=by
 have ok:=okFn_of (bs.okf f fn hf)
 obtain⟨a',o,pm,code,doc,hm',ho,hd,hc⟩:=bs.fn f fn hf
 rw[hm] at hm';cases hm'
 have hdep:=hA.depth
 have hlen:fn.names.length=vs.length:=(bindP_len hb).trans hr.length.symm
 refine wpAny_call (codeAny_call_function (fd:=docDef f fn.params fn.body fn.scope pm code doc) (body:=fn.body) (by have:recursionLimit=1000:=rfl;omega) (g.keep _ _ ho) hd ok.co ok.gen rfl (hc.keeps g.keep) ?_)
 rw[bindArgs_plain ok.plain rfl (by show fn.params.args.length=vs.length;simpa [Fn.names] using hlen)]
 refine wpAny_pure (ne ?_)
 refine newFrame (k:=false) (n:=n) (A:=A) ok bs g hP hY hYs (fun env=>hA.deeper) hb hr (fun h=>by cases h) fun env s1 kp fs hn _ hsc _=>⟨bs.nolimit.keeps (g.kp bs kp).keep,codeAny_func ?_⟩
 refine Ssl_sound S fn.body [] l0 l' (.ret d) s1 _ _ fs (by rw[hsc];exact hs) fun v s2 kw rd=> ?_
 have kp2:KP C s s2:=KP.of_kw (kp.kw.transNew kw fun b hb=> .inr (hn b (by simpa using hb)))
 exact q v s2 kp2 (Mine.R.mono (view_sub fun a ha=>zmr _ ha) rd)
end
section
variable{C:Cx}{n:Nat}{r:Ev}{k:Bool}{A:Around}{env:Env}{Y Y' W J:List Addr}{OL N:List (Str×Addr)}{l l':LocB}{s s' s'' s1 s2:Shared}{Z Z':Addr→Prop}
theorem call_next_list{I l:Addr}{i:Nat}{items:Array Value}{x:Value}{Q:Value→Shared→Prop}{E:Value→Shared→Prop}(hit:s.heap.IsListIter I l i)(hl:s.heap.IsList l items)(hx:items[i]? =some x)
  (q:∀h',h'.IsListIter I l (i+1)→Heap.SameBut I s.heap h'→Q x { s with heap:=h' }):wpAny C.M A (call (.builtin "next") [.ref I]) Q E s:=by
 obtain⟨o,ho,hc,hd⟩:=id hit
 obtain⟨ol,hol,_,nl,hdl⟩:=hl
 refine call_function_entry (by decide+kernel) (by decide+kernel) kdk_entry_next (kdk_args_next _) ?_
 unfold Builtin.«next»
 refine wpAny_bind (m:=someArgs "next" 1 2 _) (wpAny_of_eq (a:=[Value.ref I]) (by first|rfl|kernel_rfl!) ?_)
 dsimp only
 refine wpAny_bind (wpAny_specialOf (name:=Str.ofString "__next__") hit.typeIs slot_listiter_next.lookup ?_)
 refine wpAny_ite_split (fun hab=>absurd hab kD) (fun _=> ?_)
 refine wpAny_bind (wpAny_callSpecial?_slot (name:=Str.ofString "__next__") hit.typeIs slot_listiter_next
  (wpAny_call_entry slot_listiter_next hit.typeIs entry_listiter_next ?_ (args_listiter_next _)))
 show wpAny _ _ (field (.ref I) 0 >>=_) _ _ s
 refine wpAny_bind (wpAny_field ho hd (x:= .ref l) rfl ?_)
 show wpAny _ _ (if (Value.ref l==Value.none)=true then _ else _) _ _ s
 rw[if_neg (show¬((Value.ref l==Value.none)=true) from Bool.false_ne_true)]
 show wpAny _ _ (field (.ref I) 1 >>=_) _ _ s
 refine wpAny_bind (wpAny_field ho hd (x:= .int i 0) rfl ?_)
 show wpAny _ _ (seqItems? (.ref l) >>=_) _ _ s
 refine wpAny_bind (wpAny_seqItems hol hdl ?_)
 simp only[Int.toNat_natCast,hx]
 refine wpAny_bind (wpAny_setField ho hd (by simp) (wpAny_pure ⟨x,rfl,wpAny_pure ⟨_,rfl,q _ ?_ (Heap.SameBut.update ..)⟩⟩))
 exact⟨_,Heap.get?_update_self _ ho (Obj.isFreed_of_fields (Obj.data_mapFields hd _)),(Obj.cls_mapFields ..).trans hc,by
  rw[Obj.data_mapFields hd];simp[rawInt]⟩
theorem is_other{v:Value}{ai:Addr}{oi:Obj}{Q:Value→Shared→Prop}{E:Value→Shared→Prop}(hi:s.heap.get? ai=some oi)(hc:oi.cls≠.type "tuple")(hv:(∃x o,v= .ref x∧x≠ai∧s.heap.get? x=some o)∨∃i t,v= .int i t)(q:Q (.bool false) s):
  wpAny C.M A (compareOp .Is v (.ref ai)) Q E s:=by
 rcases hv with ⟨x,o,rfl,hne,ho⟩|⟨i,t,rfl⟩
 ·show wpAny _ _ (do return .bool (←isSame (.ref x) (.ref ai))) Q E s
  refine wpAny_bind ?_
  unfold isSame
  simp only
  rw[if_neg (by simpa using hne)]
  refine wpAny_bind (wpAny_load ho (wpAny_bind (wpAny_load hi ?_)))
  split
  ·rename_i h1 h2 _ _;exact absurd h2 hc
  ·exact wpAny_pure (wpAny_pure q)
 ·exact wpAny_is_other (by rfl) (by intro h;cases h) q
theorem bind_default{fd:FuncData}{a b c:Str}{dt:Addr}{odt:Obj}{nt:Nat}{u v dv:Value}{Q:List (Str×Value)→Shared→Prop}{E:Value→Shared→Prop}(hp:plainP fd.params=true)(hn:fd.params.args.map (·.arg)=[a,b,c])(hd:fd.defaults= .ref dt)(ho:s.heap.get? dt=some odt)(hod:odt.data= .seq #[dv] nt)
  (q:Q [(a,u),(b,v),(c,dv)] s):wpAny C.M A (bindArgs fd ⟨[u,v],[]⟩) Q E s:=by
 unfold plainP at hp
 simp only[Bool.and_eq_true,decide_eq_true_eq,List.isEmpty_iff,Option.isNone_iff_eq_none] at hp
 obtain⟨⟨⟨⟨h1,h2⟩,h3⟩,h4⟩,h5⟩:=hp
 rw[hn] at h5
 simp only[List.nodup_cons,List.mem_cons,List.not_mem_nil,or_false,not_or] at h5
 obtain⟨⟨hab,hac⟩,hbc,_⟩:=h5
 have e1:(a==b)=false:=by simpa using hab
 have e2:(a==c)=false:=by simpa using hac
 have e3:(b==c)=false:=by simpa using hbc
 have e4:(b==a)=false:=by simpa using fun h=>hab h.symm
 have e5:(c==a)=false:=by simpa using fun h=>hac h.symm
 have e6:(c==b)=false:=by simpa using fun h=>hbc h.symm
 unfold bindArgs
 simp only[h1,h2,h3,h4,hd,hn,List.map_nil,List.nil_append,List.append_nil,List.forIn_nil,pure_bind]
 refine wpAny_bind (wpAny_seqItems ho hod ?_)
 simp[List.lookup_cons,e4,e5,e6]
 exact wpAny_pure q
theorem bind_three{fd:FuncData}{a b c:Str}{dt:Addr}{odt:Obj}{nt:Nat}{u v dv x:Value}{Q:List (Str×Value)→Shared→Prop}{E:Value→Shared→Prop}(hp:plainP fd.params=true)(hn:fd.params.args.map (·.arg)=[a,b,c])(hd:fd.defaults= .ref dt)(ho:s.heap.get? dt=some odt)(hod:odt.data= .seq #[dv] nt)
  (q:Q [(a,u),(b,v),(c,x)] s):wpAny C.M A (bindArgs fd ⟨[u,v,x],[]⟩) Q E s:=by
 unfold plainP at hp
 simp only[Bool.and_eq_true,decide_eq_true_eq,List.isEmpty_iff,Option.isNone_iff_eq_none] at hp
 obtain⟨⟨⟨⟨h1,h2⟩,h3⟩,h4⟩,h5⟩:=hp
 rw[hn] at h5
 simp only[List.nodup_cons,List.mem_cons,List.not_mem_nil,or_false,not_or] at h5
 obtain⟨⟨hab,hac⟩,hbc,_⟩:=h5
 have e1:(a==b)=false:=by simpa using hab
 have e2:(a==c)=false:=by simpa using hac
 have e3:(b==c)=false:=by simpa using hbc
 have e4:(b==a)=false:=by simpa using fun h=>hab h.symm
 have e5:(c==a)=false:=by simpa using fun h=>hac h.symm
 have e6:(c==b)=false:=by simpa using fun h=>hbc h.symm
 unfold bindArgs
 simp only[h1,h2,h3,h4,hd,hn,List.map_nil,List.nil_append,List.append_nil,List.forIn_nil,pure_bind]
 refine wpAny_bind (wpAny_seqItems ho hod ?_)
 simp[List.lookup_cons,e4,e5,e6]
 exact wpAny_pure q
end
section
variable{C:Cx}{n:Nat}{r:Ev}{k:Bool}{A:Around}{env:Env}{Y Y' W J:List Addr}{OL N:List (Str×Addr)}{l l':LocB}{s s' s'' s1 s2:Shared}{Z Z':Addr→Prop}
theorem FS.out(fs:FS C n k A env Y OL l s)(x:KW C Z s s')(hZ:∀b,Z b→b∈Y)(hl:¬Z env.locals)(hc:∀p∈env.cells,¬Z p.2):FS C n k A env Y OL l s':=by
 have hZ':∀b,Z b→b∈olA OL++Y:=fun b hb=>zmr _ (hZ b hb)
 refine⟨fs.pre.kw x hZ' hl hc,fs.hP,fs.cY,fs.own.kw fs.pre.gr.tab x,fs.wY,fs.nY,fs.ap,fs.cw,fun y ds hy=> ?_⟩
 obtain⟨a,vs,m,h1,h2,h3,h4⟩:=fs.lst y ds hy
 have hPP:a≠C.P:=fs.own.ne a (zmL _ (List.mem_map_of_mem (f:=(·.2)) h1))
 exact⟨a,vs,m,h1,h2.kw fs.pre.gr.tab x hl hc,x.heap hPP (fun hz=>fs.nY _ h1 (hZ a hz)) h3,RDs.kw x fs.pre.hP hZ' h4⟩
theorem FS.out'(fs:FS C n k A env Y OL l s)(x:KW C Z s s')(hZ:∀b,Z b→b∈Y)(hl:Z env.locals→∀m,s.heap.Ns env.locals m→s'.heap.Ns env.locals m)(hc:∀p∈env.cells,¬Z p.2):FS C n k A env Y OL l s':=by
 have hZ':∀b,Z b→b∈olA OL++Y:=fun b hb=>zmr _ (hZ b hb)
 have t:=fs.pre.gr.tab
 have hns:∀m,s.heap.Ns env.locals m→s'.heap.Ns env.locals m:=fun m hm=>by
  by_cases hz:Z env.locals
  ·exact hl hz m hm
  ·exact hm.at fun o e=>x.heap (tab_no_ns t hm) hz e
 have hva:∀y v,VarAt env s.heap y v→VarAt env s'.heap y v:=fun y v a=>by
  rcases a with ⟨hk,m,hn,hm⟩|⟨hk,c,hcl,hv⟩
  ·exact .inl ⟨hk,m,hns m hn,hm⟩
  ·obtain⟨o,ho,hd⟩:=id hv
   exact .inr ⟨hk,c,hcl,o,x.heap (tab_no_cell t hv) (hc _ (mem_of_lookup hcl)) ho,hd⟩
 refine⟨⟨fs.pre.bs,fs.pre.a,fs.pre.eo,fs.pre.gr.kw fs.pre.bs x fun b hb=>fs.pre.hY b (hZ' b hb),fs.pre.hP,fs.pre.hY,fun a ha=>x.exs t (fs.pre.hYs a ha),?_,fs.pre.hc,fun y d hy=> ?_⟩,fs.hP,fs.cY,fs.own.kw t x,fs.wY,fs.nY,fs.ap,fs.cw,fun y ds hy=> ?_⟩
 ·obtain⟨⟨m,hn⟩,hcl,ha⟩:=fs.pre.fm
  refine⟨⟨m,hns m hn⟩,fun p hp=> ?_,ha⟩
  obtain⟨v,hv⟩:=hcl p hp
  obtain⟨o,ho,hd⟩:=id hv
  exact⟨v,o,x.heap (tab_no_cell t hv) (hc p hp) ho,hd⟩
 ·obtain⟨v,a,r⟩:=fs.pre.loc y d hy
  exact⟨v,hva y v a,RD.kw x fs.pre.hP hZ' r⟩
 ·obtain⟨a,vs,m,h1,h2,h3,h4⟩:=fs.lst y ds hy
  have hPP:a≠C.P:=fs.own.ne a (zmL _ (List.mem_map_of_mem (f:=(·.2)) h1))
  exact⟨a,vs,m,h1,hva y _ h2,x.heap hPP (fun hz=>fs.nY _ h1 (hZ a hz)) h3,RDs.kw x fs.pre.hP hZ' h4⟩
theorem FS.var(fs:FS C n k A env Y OL l s){x:Str}{d:D}(h:l x=some (.val d)):∃v,VarAt env s.heap x v∧RD C s.heap (olA OL++Y) v d:=fs.pre.loc x d (by unfold purL;rw[h])
theorem R.opq_inv{prog:Program}{w:World}{H:HV}{v u:Value}(h:R prog w H v (.opq u)):v=u:=by cases h;rfl
structure FoldC(C:Cx)(n:Nat)(A:Around)(af:Addr)(I:List Addr→Nat→Value→Shared→Prop)(its:List D)(ZF:Addr→Prop)(s0:Shared)(Y0:List Addr):Prop where
 zf:∀b,ZF b→b∈Y0
 fobj:∀Y j v s,I Y j v s→∃o fd,s.heap.get? af=some o∧o.data= .func fd
 call:∀(env:Env) Y j va vd d s (Q:Value→Shared→Prop),AOk n (A.deeper env)→Gr C s→C.P∈Y→(∀a∈Y,C.g0.get? a=none)→(∀a∈Y,∃o,s.heap.get? a=some o)→(∀a∈Y0,a∈Y)→I Y j va s→its[j]? =some d→RD C s.heap Y vd d→env.scope.kind= .function→env.frame=some env.locals→env.locals∈Y→s0.heap.get? env.locals=none→(∃m,s.heap.Ns env.locals m)→
  (∀v' s',KW C (fun b=>ZF b∨b=env.locals) s s'→(∀m,s.heap.Ns env.locals m→s'.heap.Ns env.locals m)→I Y (j+1) v' s'→Q v' s')→wpAny C.M (A.deeper env) (call (.ref af) [va,vd]) Q NE s
 kw:∀Y j v s s' (Z:Addr→Prop),I Y j v s→KW C Z s s'→(∀b,Z b→b∈Y∧s0.heap.get? b=none)→C.P∈Y→TabOk C s.heap→I Y j v s'
 more:∀(Y Y' J:List Addr) j v s s',I Y j v s→KP C s s'→(∀a∈J,s.heap.get? a=none)→(∀a∈J,∃o,s'.heap.get? a=some o)→(∀a∈Y',a∈J∨a∈Y)→(∀a∈Y,a∈Y')→C.P∈Y→I Y' j v s'
 last:∀(Y J:List Addr) j v s s',I (J++Y) j v s→KJ C J s s'→(∀a∈J,s0.heap.get? a=none∧a∉Y)→(∀a∈Y0,a∈Y)→C.P∈Y→I Y j v s'
 sub:∀(Y Y':List Addr) j v s,I Y j v s→(∀a∈Y',a∈Y)→(∀a∈Y0,a∈Y')→I Y' j v s
theorem ldVar{B:Around}{x:Str}{d:D}{p:Pos}{Q:Value→Shared→Prop}(fs:FS C n k A env Y OL l s)(h:l x=some (.val d))(h1:(x==("__debug__":Str))=false)(h2:(x==("__classdict__":Str))=false)(q:∀v,RD C s.heap (olA OL++Y) v d→Q v s):wpAny C.M B (eval (.Name x p) env) Q NE s:=by
 obtain⟨v,hv,rv⟩:=fs.var h
 exact E_var fs.pre hv h1 h2 (q v rv)
theorem store_stmt{x:Str}{p pos:Pos}{e:Expr}{E:Value→Shared→Prop}{Q:Flow→Shared→Prop}(hsw:swapsWith e (some (.Name x p)) pos.line env=pure false)
  (h:wpAny C.M A (eval e env) (fun v s1=>∃Y OL l d,FS C n k A env Y OL l s1∧(env.kindOf x=some .local∨env.kindOf x=some .cell)∧RD C s1.heap (olA OL++Y) v d∧∀s2,KW C (ZO OL env) s1 s2→FS C n k A env Y OL (setL l x (.val d)) s2→Q .next s2) NE s):
  wpAny C.M A (exec (.Assign [.Name x p] e pos) env) Q E s:=by
 refine ne (wpAny_Assign_Name (E:=NE) (wpAny_mono h (fun v s1 h1=> ?_) fun _ _ x=>x) hsw)
 obtain⟨Y,OL,l,d,fs,hk,rv,q⟩:=h1
 exact fs.assign hk rv q
def localsOf(m:List (Str×D)):LocB:=fun x=>(m.lookup x).map .val
def RInv(C:Cx)(n:Nat)(envA:Around)(env:Env)(Yl:List Addr)(I0 af:Addr)(I:List Addr→Nat→Value→Shared→Prop)(its:List D)(ZT:Addr→Prop)(pe:Pos)(s:Shared)(m:Nat)(s1:Shared):Prop:=
 ∃j v l',j+m=its.length∧FS C n false envA env ([I0]++Yl) [] l' s1∧l' "function"=some (.val (.opq (.ref af)))∧l' "value"=some (.val (.opq v))∧I ([I0]++Yl) j v s1∧SrcR C envA (.Name "element" pe) ([I0]++Yl) I0 [I0] (its.drop j) s1.heap∧KW C ZT s s1
theorem reduce_loop{af I0:Addr}{I:List Addr→Nat→Value→Shared→Prop}{its:List D}{ZF:Addr→Prop}{s0:Shared}{Y0 Yl:List Addr}{fn:Fn}(fc:FoldC C n A af I its ZF s0 Y0){envA:Around}{pe pv pf pv2 pe2 pc pa:Pos}{R:Result→Shared→Prop}
  (hA:envA=A.deeper env) (hfr:env.frame=some env.locals) (hsc:env.scope=fn.scope) (rf:RedFn fn) (fs:FS C n false envA env ([I0]++Yl) [] l s) (hY0:∀a∈Y0,a∈Yl) (hIn:I0∉Yl) (hP:C.P∈Yl) (hc:∀p∈env.cells,p.2∈Yl) (wY:∀a∈frameW env,a∈Yl) (oI:Own C [I0] s.heap)
  (hnew:∀b,(b∈[I0]∨b∈frameW env)→s0.heap.get? b=none) (hzf:∀b,ZF b→b≠I0∧b≠env.locals∧(∀p∈env.cells,p.2≠b))
  (lf:l "function"=some (.val (.opq (.ref af)))) (lv:∃v,l "value"=some (.val (.opq v))∧I ([I0]++Yl) 0 v s) (src:SrcR C envA (.Name "element" pe) ([I0]++Yl) I0 [I0] its s.heap)
  (q:∀v s1 s2 l',KW C (fun b=>b∈[I0]∨b∈frameW env∨ZF b) s s1→KJ C [I0] s1 s2→FS C n false envA env Yl [] l' s2→l' "value"=some (.val (.opq v))→I Yl its.length v s2→R (.ok .next) s2):
  codeAny C.M envA (.forLoop (.Name "element" pe) (.ref I0) [.Assign [.Name "value" pv] (.Call (.Name "function" pf) [.Name "value" pv2,.Name "element" pe2] [] pc) pa] [] env) R s:=by
 obtain⟨v0,lv0,hI0⟩:=lv
 refine codeAny_forLoop_any (RInv C n envA env Yl I0 af I its (fun b=>b∈[I0]∨b∈frameW env∨ZF b) pe s) ?_ its.length ⟨0,v0,l,by simp,fs,lf,lv0,hI0,by simpa using src,KW.refl s⟩
 rintro m s1 ⟨j,v,l1,hm,fs1,lf1,lv1,hI1,src1,kw1⟩
 have t0:=fs.pre.gr.tab
 have hIP:I0≠C.P:=oI.ne I0 (by simp)
 have hIl:I0≠env.locals:=fun e=>hIn (e▸wY _ zmS)
 have hIc:∀p∈env.cells,¬p.2=I0:=fun p hp e=>hIn (e▸hc p hp)
 have hJY:∀b∈[I0],b∈[I0]++Yl:=fun b hb=>zmL _ hb
 have oI1:Own C [I0] s1.heap:=oI.kw t0 kw1
 have hkind:∀x∈(["function","sequence","initial","it","value","element"]:List Str),env.kindOf x=some .local:=fun x hx=>by
  show env.scope.names.lookup x=_
  rw[hsc];exact rf.loc x hx
 have hWnew:∀b,b∈frameW env→b∈[I0]++Yl∧s0.heap.get? b=none:=fun b hb=>⟨zmr _ (wY b hb),hnew b (.inr hb)⟩
 have hInew:∀b,b=I0→b∈[I0]++Yl∧s0.heap.get? b=none:=fun b hb=>⟨by simp[hb],hnew b (.inl (by simp[hb]))⟩
 cases hd:its.drop j with
 |nil=>
  rw[hd] at src1
  refine ne (src1.done fun h' tk ht hk=> ?_)
  have kj:KJ C [I0] s1 { s1 with heap:=h',toks:=tk }:=KJ.of ht oI1.ne oI1.code hk
  have hj:j=its.length:=by
   have:=List.drop_eq_nil_iff.mp hd
   omega
  have hInJ:∀a∈[I0],a∉Yl:=fun a ha=>by simp at ha;subst ha;exact hIn
  refine wpAny_execs_nil (q v s1 _ l1 kw1 kj (fs1.lastJ kj hInJ hP hc wY) lv1 ?_)
  rw[←hj]
  exact fc.last Yl [I0] j v s1 _ hI1 kj (fun a ha=>⟨hnew a (.inl ha),hInJ a ha⟩) hY0 hP
 |cons d ds=>
  rw[hd] at src1
  have hlt:j<its.length:=by
   rcases Nat.lt_or_ge j its.length with h|h
   ·exact h
   ·rw[List.drop_of_length_le h] at hd;cases hd
  have hjd:its[j]? =some d:=by
   have:=List.drop_eq_getElem_cons hlt
   rw[hd] at this
   injection this with h1 h2
   rw[h1];simp[hlt]
  have hds:its.drop (j+1)=ds:=by
   have:=List.drop_eq_getElem_cons hlt
   rw[hd] at this
   injection this with h1 h2
   exact h2.symm
  refine ne (wpAny_mono (src1.next hJY fs1.pre.hYs (Q:=fun v s2=>wpAny C.M envA (assign (.Name "element" pe) env v) (fun _ s₂=>wpAny C.M envA (execs [.Assign [.Name "value" pv] (.Call (.Name "function" pf) [.Name "value" pv2,.Name "element" pe2] [] pc) pa] env) (fun ff s₃=>match ff with
      | .next| .cont=>∃m',m'<m∧RInv C n envA env Yl I0 af I its (fun b=>b∈[I0]∨b∈frameW env∨ZF b) pe s m' s₃
      | .brk=>R (.ok .next) s₃
      | .ret v=>R (.ok (.ret v)) s₃) (notedBy C.M envA env fun e s'=>R (.error e) s') s₂) (notedBy C.M envA env fun e s'=>R (.error e) s') s2) ?_) ?_ fun _ _ x=>x)
  ·intro e h' tk ht hk hjo src2 he
   have kw2:KW C (·=I0) s1 { s1 with heap:=h',toks:=tk }:=KW.one ht rfl hIP (oI1.code I0 (by simp)) (fun b o hb e=>hk b o (by simpa using hb) e) (hjo I0 (by simp))
   have fs2:=fs1.out kw2 (fun b hb=>(hInew b hb).1) (fun e=>hIl e.symm) hIc
   have hI2:=fc.kw _ _ _ _ _ _ hI1 kw2 hInew fs1.hP fs1.pre.gr.tab
   refine ne (wpAny_assign_Name (fs2.assign (.inl (hkind "element" kD)) he fun s3 kw3 fs3=> ?_))
   have kw3':KW C (·∈frameW env) { s1 with heap:=h',toks:=tk } s3:=kw3.mono fun b hb=>by simpa using hb
   have hI3:=fc.kw _ _ _ _ _ _ hI2 kw3' hWnew fs1.hP fs2.pre.gr.tab
   have src3:SrcR C envA (.Name "element" pe) ([I0]++Yl) I0 [I0] ds s3.heap:=src2.more (Zs:=[]) (fun b hb=>by cases hb) (fun b hb=> .inr hb) fun b o hb e=>by
    refine kw3'.heap (fun e'=> ?_) (fun hz=> ?_) e
    ·rcases hb with hb|hb
     ·exact oI1.ne b hb e'
     ·exact hb (e'▸fs1.hP)
    ·rcases hb with hb|hb
     ·simp at hb;subst hb;exact hIn (wY _ hz)
     ·exact hb (hWnew b hz).1
   have lf3:setL l1 "element" (.val d) "function"=some (.val (.opq (.ref af))):=by
    unfold setL;rw[if_neg kD];exact lf1
   have lv3:setL l1 "element" (.val d) "value"=some (.val (.opq v)):=by
    unfold setL;rw[if_neg kD];exact lv1
   have le3:setL l1 "element" (.val d) "element"=some (.val d):=by
    unfold setL;rw[if_pos rfl]
   have kw13:KW C (fun b=>b∈[I0]∨b∈frameW env∨ZF b) s s3:=kw1.trans ((kw2.mono fun b hb=>Or.inl (by simp[hb])).trans (kw3'.mono fun b hb=>Or.inr (Or.inl hb)))
   refine wpAny_execs_cons (store_stmt (n:=n) (k:=false) (by rfl) ?_)
   refine Call_Name rfl (ldVar fs3 lf3 kD kD fun f rfv=> ?_)
   have hf:=Mine.R.opq_inv rfv
   subst hf
   obtain⟨of,fd,hof,hofd⟩:=fc.fobj _ _ _ _ hI3
   refine callWith_function (o:=of) (fd:=fd) (evalArgs_plain (spliced_cons (ldVar fs3 lv3 kD kD fun u ru=>spliced_cons (ldVar fs3 le3 kD kD fun e' re=>spliced_nil ⟨⟨hof,hofd⟩,?_⟩))))
   have hu:u=v:=Mine.R.opq_inv ru
   rw[hu]
   have aok:AOk n (A.deeper env):=hA▸fs.pre.a
   subst hA
   refine fc.call env ([I0]++Yl) j v e' d s3 _ aok fs3.pre.gr fs3.hP (fun a ha=>fs3.pre.hY a (by simpa using ha)) (fun a ha=>fs3.pre.hYs a (by simpa using ha)) (fun a ha=>zmr _ (hY0 a ha)) hI3 hjd re fs3.pre.eo.kind hfr (hWnew env.locals zmS).1 (hWnew env.locals zmS).2 fs3.pre.fm.ns fun v' s4 kw4 hns4 hI4=> ?_
   have hzY:∀b,ZF b∨b=env.locals→b∈[I0]++Yl:=fun b hb=>by
    rcases hb with hb|hb
    ·exact zmr _ (hY0 b (fc.zf b hb))
    ·exact hb▸(hWnew env.locals zmS).1
   have hlc:∀p∈env.cells,p.2≠env.locals:=fun p hp e=>by
    obtain⟨m,o,es,ep,ho,hd',_⟩:=fs3.pre.fm.ns
    obtain⟨v,o',ho',hd''⟩:=fs3.pre.fm.cl p hp
    rw[e,ho] at ho';cases ho';rw[hd'] at hd'';cases hd''
   have fs4:=fs3.out' kw4 hzY (fun _=>hns4) fun p hp hz=>by
    rcases hz with hz|hz
    ·exact(hzf _ hz).2.2 p hp rfl
    ·exact hlc p hp hz
   refine⟨[I0]++Yl,[],_,.opq v',fs4,.inl (hkind "value" kD),.opq v',fun s5 kw5 fs5=> ?_⟩
   have kw5':KW C (·∈frameW env) s4 s5:=kw5.mono fun b hb=>by simpa using hb
   have hI5:=fc.kw _ _ _ _ _ _ hI4 kw5' hWnew fs1.hP fs4.pre.gr.tab
   have src5:SrcR C (A.deeper env) (.Name "element" pe) ([I0]++Yl) I0 [I0] ds s5.heap:=src3.more (Zs:=[]) (fun b hb=>by cases hb) (fun b hb=> .inr hb) fun b o hb e=>by
    have hbP:b≠C.P:=fun e'=>by
     rcases hb with hb|hb
     ·exact oI1.ne b hb e'
     ·exact hb (e'▸fs1.hP)
    refine kw5'.heap hbP (fun hz=> ?_) (kw4.heap hbP (fun hz=> ?_) e)
    ·rcases hb with hb|hb
     ·simp at hb;subst hb;exact hIn (wY _ hz)
     ·exact hb (hWnew b hz).1
    ·rcases hb with hb|hb
     ·simp at hb
      rcases hz with hz|hz
      ·exact(hzf b hz).1 hb
      ·exact hIl (hb.symm.trans hz)
     ·exact hb (hzY b hz)
   refine wpAny_execs_nil ⟨m - 1,by omega,j+1,v',_,by omega,fs5,?_,?_,hI5,hds▸src5,kw13.trans ((kw4.mono fun b hb=>hb.elim (fun hb=>Or.inr (Or.inr hb)) fun hb=>Or.inr (Or.inl (hb▸zmS))).trans (kw5'.mono fun b hb=>Or.inr (Or.inl hb)))⟩
   ·unfold setL;rw[if_neg kD];exact lf3
   ·unfold setL;rw[if_pos rfl]
  ·rintro rr s2 ⟨v,rfl,hh⟩
   exact ne hh
end
section
variable{C:Cx}{n:Nat}{r:Ev}{k:Bool}{A:Around}{env:Env}{Y Y' W J:List Addr}{OL N:List (Str×Addr)}{l l':LocB}{s s' s'' s1 s2:Shared}{Z Z':Addr→Prop}
theorem call_iter_list{ad:Addr}{items:Array Value}{Q:Value→Shared→Prop}{E:Value→Shared→Prop}(hl:s.heap.IsList ad items)
  (q:Q (.ref s.heap.objs.size) { s with heap:=s.heap.push { cls:= .type "list_iterator",data:= .fields #[.ref ad,.int 0 0] } }):wpAny C.M A (call (.builtin "iter") [.ref ad]) Q E s:=by
 refine call_function_entry (by decide+kernel) (by decide+kernel) kdk_entry_iter (kdk_args_iter _) ?_
 unfold Builtin.«iter»
 refine wpAny_bind (m:=someArgs "iter" 1 2 _) (wpAny_of_eq (a:=[.ref ad]) (by first|rfl|kernel_rfl!) ?_)
 show wpAny _ _ (pyIter (.ref ad) >>=_) _ _ _
 exact wpAny_bind (wpAny_pyIter_list hl (wpAny_pure ⟨_,rfl,q⟩))
structure RMid(C:Cx)(n:Nat)(envA:Around)(env:Env)(Yl:List Addr)(I0 af ad:Addr)(I:List Addr→Nat→Value→Shared→Prop)(vs:List Value)(ds its:List D)(v0:Value)(ZT:Addr→Prop)(i0:Nat)(l5:LocB)(s s5:Shared):Prop where
 fs:FS C n false envA env ([I0]++Yl) [] l5 s5
 lf:l5 "function"=some (.val (.opq (.ref af)))
 li:l5 "it"=some (.val (.opq (.ref I0)))
 lv:l5 "value"=some (.val (.opq v0))
 inv:I ([I0]++Yl) 0 v0 s5
 it:s5.heap.IsListIter I0 ad i0
 list:s5.heap.IsList ad vs.toArray
 rs:RDs C s5.heap ([I0]++Yl) vs ds
 its:ds.drop i0=its
 i0:i0≤ds.length
 kw:KW C ZT s s5
theorem reduce_tail{af I0 ad:Addr}{I:List Addr→Nat→Value→Shared→Prop}{its ds:List D}{ZF:Addr→Prop}{s0:Shared}{Y0 Yl:List Addr}{fn:Fn}(fc:FoldC C n A af I its ZF s0 Y0){p18 p19 p20 p21 p22 p23 p24 p25 p26 p27 p28:Pos}{i0:Nat}{l5:LocB}{s5:Shared}{vs:List Value}{v0:Value}{Q:Flow→Shared→Prop}{E:Value→Shared→Prop}
  (hh:A.handled=none) (hfr:env.frame=some env.locals) (hsc:env.scope=fn.scope) (rf:RedFn fn) (hY0:∀a∈Y0,a∈Yl) (hIn:I0∉Yl) (hP:C.P∈Yl) (hc:∀p∈env.cells,p.2∈Yl) (wY:∀a∈frameW env,a∈Yl) (oI:Own C [I0] s5.heap)
  (hnew:∀b,(b∈[I0]∨b∈frameW env)→s0.heap.get? b=none) (hzf:∀b,ZF b→b≠I0∧b≠env.locals∧(∀p∈env.cells,p.2≠b)) (hadY:ad∉[I0]++Yl)
  (m:RMid C n (A.deeper env) env Yl I0 af ad I vs ds its v0 (fun b=>b∈[I0]∨b∈frameW env∨ZF b) i0 l5 s s5)
  (q:∀v s1 s2,KW C (fun b=>b∈[I0]∨b∈frameW env∨ZF b) s s1→KJ C [I0] s1 s2→I Y0 its.length v s2→Q (.ret v) s2):
  wpAny C.M (A.deeper env) (execs [.For (.Name "element" p18) (.Name "it" p19) [.Assign [.Name "value" p20] (.Call (.Name "function" p21) [.Name "value" p22,.Name "element" p23] [] p24) p25] [] p26,.Return (some (.Name "value" p27)) p28] env) Q E s5:=by
 obtain⟨fs,lf,li,lv,inv,it,list,rs,hits,hi0,kw⟩:=m
 have hPY:∀b∈[I0],b∈[I0]++Yl:=fun b hb=>zmL _ hb
 refine wpAny_execs_cons (wpAny_For (ne (ldVar fs li kD kD fun v rv=> ?_)) (by intro _;rfl))
 have hv:=Mine.R.opq_inv rv
 subst hv
 refine wpAny_pyIter_listiter it ?_
 have hlen:=rs.length
 have hIad:ad≠I0:=fun e=>hadY (by simp[e])
 obtain⟨oit,hoit,hcit,hdit⟩:=id it
 obtain⟨oad,hoad,_⟩:=id list
 have itr:ItR C (A.deeper env) ([I0]++Yl) I0 its s5.heap:=by
  refine⟨_,_,_,_,i0,Walks.list (A:=A.deeper env) hh I0 ad hIad vs.toArray,⟨it,list⟩,?_,⟨fun b hb=> ?_,fun b hb=> ?_⟩,?_,?_⟩
  ·rw[←hits];simp[hlen];omega
  ·simp at hb
   rcases hb with rfl|rfl
   ·exact .inl rfl
   ·exact .inr hadY
  ·simp at hb
   rcases hb with rfl|rfl
   ·exact⟨_,hoit⟩
   ·exact⟨_,hoad⟩
  ·rintro j h ⟨⟨o,ho,hc,_⟩,_⟩;exact⟨o,ho,.inl hc⟩
  ·intro j v hv d hd
   have hv:vs[i0+j]? =some v:=by simpa using hv
   obtain⟨d',hd',hr⟩:=rs.getV hv
   rw[←hits,List.getElem?_drop] at hd
   rw[hd] at hd';cases hd'
   exact hr
 refine reduce_loop fc rfl hfr hsc rf fs hY0 hIn hP hc wY oI hnew hzf lf ⟨v0,lv,inv⟩ (SrcR.ofIt (by simp) itr) fun v s6 s7 l7 kw6 kj fs7 lv7 inv7=> ?_
 refine wpAny_execs_cons (ne (wpAny_Return_some (E:=NE) (ldVar fs7 lv7 kD kD fun u ru=> ?_)))
 have hu:=Mine.R.opq_inv ru
 subst hu
 exact q _ s6 s7 (kw.trans kw6) kj (fc.sub Yl Y0 _ _ _ inv7 hY0 fun a ha=>ha)
theorem reduce_sound{af ar:Addr}{I:List Addr→Nat→Value→Shared→Prop}{its ds:List D}{ZF:Addr→Prop}{sv v0:Value}{args:List Value}{Q E:Value→Shared→Prop}(bs:Base C)(g:Gr C s)(hP:C.P∈Y)(hY:∀a∈Y,C.g0.get? a=none)(hYs:∀a∈Y,∃o,s.heap.get? a=some o)
  (hm:C.mg "reduce"=some (.ref ar)) (room:CRoom n A) (fc:FoldC C n A af I its ZF s Y) (hI:I Y 0 v0 s) (hsv:RD C s.heap Y sv (.list ds))
  (hargs:(args=[.ref af,sv,v0]∧ds=its∧((∃x o,v0= .ref x∧s.heap.get? x=some o∧(o.cls= .type "list"∨o.cls= .type "tuple"))∨∃i t,v0= .int i t))∨
   (args=[.ref af,sv]∧∃a,ds=a::its∧∃l0 vs m,sv= .ref l0∧s.heap.get? l0=some (lstO (v0::vs) m)))
  (q:∀v s',KW C ZF s s'→I Y its.length v s'→Q v s'):wpAny C.M A (call (.ref ar) args) Q E s:=by
 obtain⟨fn,ar',o,pm,code,doc,dt,ai,odt,nt,oi,rf,hm',ho,hd,hcr,hdt,hdtd,hmi,hai,haic⟩:=bs.red
 rw[hm] at hm';cases hm'
 have ok:=okFn_of rf.ok
 have hplain:=ok.plain
 have hnames:fn.params.args.map (·.arg)=(["function","sequence","initial"]:List Str):=rf.names
 have hdep:=room.depth
 obtain⟨ad,vs,mv,rfl,hadv,rs0⟩:=hsv.list_inv
 obtain⟨hado,hadY⟩:=view_get hadv
 obtain⟨iv,hbind,hcase⟩:∃iv,(∀(R:List (Str×Value)→Shared→Prop),R (fn.names.zip [.ref af,.ref ad,iv]) s→wpAny C.M A.in1 (bindArgs { docDef "reduce" fn.params fn.body fn.scope pm code doc with defaults:= .ref dt } ⟨args,[]⟩) R (fun e s'=>E e s') s)∧
   ((iv=v0∧ds=its∧((∃x o,v0= .ref x∧x≠ai∧s.heap.get? x=some o)∨∃i t,v0= .int i t))∨(iv= .ref ai∧∃a vs',ds=a::its∧vs=v0::vs')):=by
  rcases hargs with ⟨rfl,h1,h2⟩|⟨rfl,a,h1,l0,vs',m',h2,h3⟩
  ·refine⟨v0,fun R hR=>bind_three (fd:={ docDef "reduce" fn.params fn.body fn.scope pm code doc with defaults:= .ref dt }) hplain hnames rfl (g.keep _ _ hdt) hdtd (by rw[rf.names] at hR;exact hR),.inl ⟨rfl,h1,?_⟩⟩
   rcases h2 with ⟨x,ox,h2,h3,h4⟩|h2
   ·refine .inl ⟨x,ox,h2,fun e=> ?_,h3⟩
    have:=g.keep _ _ hai
    rw[←e,h3] at this
    cases this
    rw[haic] at h4
    rcases h4 with h4|h4 <;> (injection h4 with h4;exact absurd h4 kD)
   ·exact .inr h2
  ·refine⟨.ref ai,fun R hR=>bind_default (fd:={ docDef "reduce" fn.params fn.body fn.scope pm code doc with defaults:= .ref dt }) hplain hnames rfl (g.keep _ _ hdt) hdtd (by rw[rf.names] at hR;exact hR),.inr ⟨rfl,a,vs',h1,?_⟩⟩
   cases h2
   rw[hado] at h3
   simp only[lstO,Option.some.injEq,Obj.mk.injEq,Data.seq.injEq] at h3
   simpa using congrArg Array.toList h3.2.2.1.1
 refine wpAny_call (codeAny_call_function (fd:={ docDef "reduce" fn.params fn.body fn.scope pm code doc with defaults:= .ref dt }) (body:=fn.body) (by have:recursionLimit=1000:=rfl;omega) (g.keep _ _ ho) hd ok.co ok.gen rfl (hcr.keeps g.keep) ?_)
 refine hbind _ (ne ?_)
 have hb:∃l0,bindP fn.names [.opq (.ref af),.opq (.ref ad),.opq iv]=some l0:=by rw[rf.names];exact⟨_,rfl⟩
 obtain⟨l0,hb⟩:=hb
 have hl0:∀x,l0 x=((fn.names.zip [D.opq (.ref af),.opq (.ref ad),.opq iv]).lookup x).map .val:=bindP_lookup hb
 rw[rf.names] at hl0
 have lf0:l0 "function"=some (.val (.opq (.ref af))):=by rw[hl0];rfl
 have ls0:l0 "sequence"=some (.val (.opq (.ref ad))):=by rw[hl0];rfl
 have li0:l0 "initial"=some (.val (.opq iv)):=by rw[hl0];rfl
 refine newFrame (k:=false) (n:=n) (A:=A) ok bs g hP hY hYs (fun env=>room.deeper) hb (.cons (.opq _) (.cons (.opq _) (.cons (.opq iv) .nil))) (fun h=>by cases h) fun env s1 kp1 fs1 hn1 hcn hsc hfr=>⟨bs.nolimit.keeps (g.kp bs kp1).keep,codeAny_func ?_⟩
 have hfresh:∀a,s1.heap.get? a=none→s.heap.get? a=none:=fun a ha=>newIn kp1.kw g.tab (Z:=fun _=>False) ha
 have hI1:I (frameW env++Y) 0 v0 s1:=fc.more Y (frameW env++Y) (frameW env) 0 v0 s s1 hI kp1 hn1 (fun a ha=>fs1.pre.hYs a (zmr _ (zmL _ ha))) (fun a ha=>zapp.mp ha) (fun a ha=>zmr _ ha) hP
 have rs1:RDs C s1.heap (frameW env++Y) vs ds:=RDs.moreL kp1 hP hn1 (fun a ha=>zapp.mp ha) rs0
 have hadP:ad≠C.P:=fun e=>hadY (e▸hP)
 have hado1:=kp1.heap hadP hado
 have hadn:ad∉frameW env:=fun hm=>by rw[hn1 ad hm] at hado;cases hado
 have hadYl:ad∉frameW env++Y:=fun hm=>(zapp.mp hm).elim hadn hadY
 have hkind:∀x∈(["function","sequence","initial","it","value","element"]:List Str),env.kindOf x=some .local:=fun x hx=>by
  show env.scope.names.lookup x=_
  rw[hsc];exact rf.loc x hx
 have hglb:∀x∈(["iter","next","_initial_missing"]:List Str),env.kindOf x=some .globalImplicit:=fun x hx=>by
  show env.scope.names.lookup x=_
  rw[hsc];exact rf.glb x hx
 obtain⟨p,h0,hs,hbody⟩:=rf.shape
 rw[hbody]
 refine wpAny_execs_cons (store_stmt (n:=n) (k:=false) (by rfl) ?_)
 refine Call_Name rfl (E_builtin (v:= .builtin "iter") fs1.pre (hglb "iter" kD) kD boot_iter kD ?_)
 refine callWith_builtin rfl (evalArgs_plain (spliced_cons (ldVar fs1 ls0 kD kD fun u ru=>spliced_nil ?_)))
 have hu:=Mine.R.opq_inv ru
 subst hu
 have hlist1:s1.heap.IsList ad vs.toArray:=⟨_,hado1,rfl,mv,rfl⟩
 refine call_iter_list hlist1 ?_
 generalize hs2:({ s1 with heap:=s1.heap.push { cls:= .type "list_iterator",data:= .fields #[.ref ad,.int 0 0] } }:Shared)=s2
 generalize hI0:s1.heap.objs.size=I0
 have hI0n:s1.heap.get? I0=none:=hI0▸newAddr _
 have kp2:KP C s1 s2:=by rw[←hs2];exact KP.of nL fun b o e=>zpO _ e
 have hit2:s2.heap.get? I0=some { cls:= .type "list_iterator",data:= .fields #[.ref ad,.int 0 0] }:=by rw[←hs2,←hI0];exact Heap.get?_push_size _ rfl
 have hJn:∀a∈[I0],s1.heap.get? a=none:=fun a ha=>by simp at ha;subst ha;exact hI0n
 have hJe:∀a∈[I0],∃o,s2.heap.get? a=some o:=fun a ha=>by simp at ha;subst ha;exact⟨_,hit2⟩
 have fs2:FS C n false (A.deeper env) env ([I0]++(frameW env++Y)) [] l0 s2:=fs1.moreJ kp2 hJn hJe
 have hIn:I0∉frameW env++Y:=fun hm=>by obtain⟨o,e⟩:=fs1.pre.hYs I0 (zmr _ hm);rw[hI0n] at e;cases e
 have hI2:I ([I0]++(frameW env++Y)) 0 v0 s2:=fc.more (frameW env++Y) ([I0]++(frameW env++Y)) [I0] 0 v0 s1 s2 hI1 kp2 hJn hJe (fun a ha=>zapp.mp ha) (fun a ha=>zmr _ ha) fs1.hP
 have rs2:RDs C s2.heap ([I0]++(frameW env++Y)) vs ds:=RDs.moreL kp2 fs1.hP hJn (fun a ha=>zapp.mp ha) rs1
 have hadI:ad≠I0:=fun e=>by rw[e,hI0n] at hado1;cases hado1
 have hadY2:ad∉[I0]++(frameW env++Y):=fun hm=>by
  rcases zapp.mp hm with h|h
  ·simp at h;exact hadI h
  ·exact hadYl h
 have hado2:=kp2.heap hadP hado1
 have hIs:s.heap.get? I0=none:=hfresh I0 hI0n
 have hnew:∀b,(b∈[I0]∨b∈frameW env)→s.heap.get? b=none:=fun b hb=>by
  rcases hb with hb|hb
  ·simp at hb;subst hb;exact hIs
  ·exact hn1 b hb
 have hIl:I0∉frameW env:=fun hm=>hIn (zmL _ hm)
 have hzex:∀b,ZF b→∃o,s.heap.get? b=some o:=fun b hb=>hYs b (fc.zf b hb)
 have hzf:∀b,ZF b→b≠I0∧b≠env.locals∧(∀p∈env.cells,p.2≠b):=fun b hb=>by
  obtain⟨o,ho⟩:=hzex b hb
  refine⟨fun e=> ?_,fun e=> ?_,fun p hp e=> ?_⟩
  ·rw[e,hIs] at ho;cases ho
  ·rw[e,hn1 _ zmS] at ho;cases ho
  ·rw[←e,hn1 _ (hcn p hp)] at ho;cases ho
 refine⟨[I0]++(frameW env++Y),[],l0,.opq (.ref I0),fs2,.inl (hkind "it" kD),.opq _,fun s3 kw3 fs3=> ?_⟩
 have hWnew:∀b,b∈frameW env→b∈[I0]++(frameW env++Y)∧s.heap.get? b=none:=fun b hb=>⟨zmr _ (zmL _ hb),hn1 b hb⟩
 have hInew:∀b,b=I0→b∈[I0]++(frameW env++Y)∧s.heap.get? b=none:=fun b hb=>⟨by simp[hb],hb▸hIs⟩
 have kw3':KW C (·∈frameW env) s2 s3:=kw3.mono fun b hb=>by simpa using hb
 have hI3:=fc.kw _ _ _ _ _ _ hI2 kw3' hWnew fs2.hP fs2.pre.gr.tab
 have rs3:RDs C s3.heap ([I0]++(frameW env++Y)) vs ds:=RDs.kw kw3' fs2.hP (fun b hb=>(hWnew b hb).1) rs2
 have hado3:=kw3'.heap hadP hadn hado2
 have hI0P:I0≠C.P:=fun e=>by obtain⟨oo,ho'⟩:=hYs C.P hP;rw[←e,hIs] at ho';cases ho'
 have hit3:=kw3'.heap hI0P hIl hit2
 have oI2:Own C [I0] s2.heap:=by
  rw[←hs2]
  exact Own.fresh fs1.pre.gr.tab (fun a ha=>by simp at ha;subst ha;exact hI0P) (fun b o e=>zpO _ e) hJn (fun a ha=>by
   simp at ha;subst ha;rw[←hI0];exact⟨_,Heap.get?_push_size _ rfl⟩)
 have oI3:Own C [I0] s3.heap:=oI2.kw fs2.pre.gr.tab kw3'
 have kwT3:KW C (fun b=>b∈[I0]∨b∈frameW env∨ZF b) s s3:=((KP.kw (kp1.trans kp2)).trans (kw3'.mono fun b hb=>Or.inr (Or.inl hb)))
 have fin:∀v s6 s7,KW C (fun b=>b∈[I0]∨b∈frameW env∨ZF b) s s6→KJ C [I0] s6 s7→I Y its.length v s7→Q v s7:=fun v s6 s7 kw kj hI=>by
  have kw7:KW C (fun b=>b∈frameW env∨ZF b) s s7:=kw.lastJ (J:=[I0]) (fun b hb=>by simp at hb;subst hb;exact hIs) kj fun b hb=>by
   rcases hb with hb|hb
   ·exact .inr hb
   ·exact .inl hb
  exact q v s7 ((KW.refl (Z:=ZF) s).transNew kw7 fun b hb=>by
   rcases hb with hb|hb
   ·exact .inr (hn1 b hb)
   ·exact .inl hb) hI
 have tail:∀(i0:Nat) (l5:LocB) (s5:Shared) (E5:Value→Shared→Prop),RMid C n (A.deeper env) env (frameW env++Y) I0 af ad I vs ds its v0 (fun b=>b∈[I0]∨b∈frameW env∨ZF b) i0 l5 s s5→Own C [I0] s5.heap→
   wpAny C.M (A.deeper env) (execs [.For (.Name "element" (p 18)) (.Name "it" (p 19)) [.Assign [.Name "value" (p 20)] (.Call (.Name "function" (p 21)) [.Name "value" (p 22),.Name "element" (p 23)] [] (p 24)) (p 25)] [] (p 26),.Return (some (.Name "value" (p 27))) (p 28)] env) (fun f s'=>match f with
    | .ret v=>Q v s'
    |_=>False) E5 s5:=fun i0 l5 s5 E5 rm oI5=>by
  refine reduce_tail fc room.handled hfr hsc rf (fun a ha=>zmr _ ha) hIn (zmr _ hP) (fun p hp=>zmL _ (hcn p hp)) (fun a ha=>zmL _ ha) oI5 hnew hzf hadY2 rm fun v s6 s7 kw kj hI=>fin v s6 s7 kw kj hI
 have li3:setL l0 "it" (.val (.opq (.ref I0))) "initial"=some (.val (.opq iv)):=by unfold setL;rw[if_neg kD];exact li0
 have lf3:setL l0 "it" (.val (.opq (.ref I0))) "function"=some (.val (.opq (.ref af))):=by unfold setL;rw[if_neg kD];exact lf0
 have lt3:setL l0 "it" (.val (.opq (.ref I0))) "it"=some (.val (.opq (.ref I0))):=by unfold setL;rw[if_pos rfl]
 generalize setL l0 "it" (.val (.opq (.ref I0)))=l3 at li3 lf3 lt3 fs3
 have hai3:=fs3.pre.gr.keep _ _ hai
 refine wpAny_execs_cons (wpAny_If (ne (wpAny_isTrue_Compare1 (ldVar fs3 li3 kD kD fun u ru=>E_global fs3.pre (hglb "_initial_missing" kD) hmi kD ?_))))
 have hu:=Mine.R.opq_inv ru
 subst hu
 rcases hcase with ⟨rfl,hds,hv0⟩|⟨hiv,a,vs',hds,hvs⟩
 ·refine is_other hai3 (by rw[haic];intro h;injection h with h;exact absurd h kD) ?_ (wpAny_truthy_bool ?_)
  ·rcases hv0 with ⟨x,ox,h1,h2,h3⟩|h
   ·obtain⟨o3,h4⟩:=kwT3.exs g.tab ⟨ox,h3⟩
    exact .inl ⟨x,o3,h1,h2,h4⟩
   ·exact .inr h
  ·simp only[Bool.false_eq_true,if_false]
   refine wpAny_execs_cons (store_stmt (n:=n) (k:=false) (by rfl) (ldVar fs3 li3 kD kD fun u ru=> ?_))
   have hu:=Mine.R.opq_inv ru
   subst hu
   refine⟨[I0]++(frameW env++Y),[],l3,.opq _,fs3,.inl (hkind "value" kD),.opq _,fun s4 kw4 fs4=>wpAny_execs_nil ?_⟩
   have kw4':KW C (·∈frameW env) s3 s4:=kw4.mono fun b hb=>by simpa using hb
   refine wpAny_mono (tail 0 _ s4 _ ⟨fs4,?_,?_,?_,fc.kw _ _ _ _ _ _ hI3 kw4' hWnew fs2.hP fs3.pre.gr.tab,⟨_,kw4'.heap hI0P hIl hit3,rfl,rfl⟩,⟨_,kw4'.heap hadP hadn hado3,rfl,mv,rfl⟩,RDs.kw kw4' fs2.hP (fun b hb=>(hWnew b hb).1) rs3,hds,Nat.zero_le _,kwT3.trans (kw4'.mono fun b hb=>Or.inr (Or.inl hb))⟩ (oI3.kw fs3.pre.gr.tab kw4')) (fun f s' hf=> ?_) fun _ _ x=>x
   ·unfold setL;rw[if_neg kD];exact lf3
   ·unfold setL;rw[if_neg kD];exact lt3
   ·unfold setL;rw[if_pos rfl]
   ·cases f with
    |ret v=>exact hf
    |next=>exact hf.elim
    |brk=>exact hf.elim
    |cont=>exact hf.elim
 ·subst hiv
  refine wpAny_is_ref_self (wpAny_truthy_bool ?_)
  simp only[if_true]
  refine wpAny_execs_cons (wpAny_Try_except (wpAny_execs_cons (store_stmt (n:=n) (k:=false) (by rfl) ?_)))
  refine Call_Name rfl (E_builtin (v:= .builtin "next") fs3.pre (hglb "next" kD) kD boot_next kD ?_)
  refine callWith_builtin rfl (evalArgs_plain (spliced_cons (ldVar fs3 lt3 kD kD fun u ru=>spliced_nil ?_)))
  have hu:=Mine.R.opq_inv ru
  subst hu
  refine call_next_list (i:=0) (items:=vs.toArray) (x:=v0) ⟨_,hit3,rfl,rfl⟩ ⟨_,hado3,rfl,mv,rfl⟩ (by rw[hvs];rfl) fun h' hit' hs=> ?_
  obtain⟨oit,hoit,hcit,hdit⟩:=id hit'
  have kw4:KW C (·=I0) s3 { s3 with heap:=h' }:=KW.one (tk:=s3.toks) nL rfl hI0P (oI3.code I0 (by simp)) (fun b o hb e=>by rw[hs.2 b hb];exact e) ⟨_,hoit⟩
  have hIl':¬env.locals=I0:=fun e=>hIl (e▸zmS)
  have fs4:=fs3.out kw4 (fun b hb=>(hInew b hb).1) hIl' fun q hq e=>hIl (e▸hcn q hq)
  have hI4:=fc.kw _ _ _ _ _ _ hI3 kw4 hInew fs2.hP fs3.pre.gr.tab
  refine⟨[I0]++(frameW env++Y),[],l3,.opq v0,fs4,.inl (hkind "value" kD),.opq _,fun s5 kw5 fs5=>wpAny_execs_nil (wpAny_execs_nil (wpAny_execs_nil ?_))⟩
  have kw5':KW C (·∈frameW env) { s3 with heap:=h' } s5:=kw5.mono fun b hb=>by simpa using hb
  have rs4:RDs C h' ([I0]++(frameW env++Y)) vs ds:=RDs.kw kw4 fs2.hP (fun b hb=>(hInew b hb).1) rs3
  have e1:h'.get? ad=some (lstO vs mv):=by rw[hs.2 ad hadI];exact hado3
  refine wpAny_mono (tail 1 _ s5 _ ⟨fs5,?_,?_,?_,fc.kw _ _ _ _ _ _ hI4 kw5' hWnew fs2.hP fs4.pre.gr.tab,⟨_,kw5'.heap hI0P hIl hoit,hcit,hdit⟩,⟨_,kw5'.heap hadP hadn e1,rfl,mv,rfl⟩,RDs.kw kw5' fs2.hP (fun b hb=>(hWnew b hb).1) rs4,by rw[hds];rfl,by rw[hds];simp,kwT3.trans ((kw4.mono fun b hb=>Or.inl (by simp[hb])).trans (kw5'.mono fun b hb=>Or.inr (Or.inl hb)))⟩ ((oI3.kw fs3.pre.gr.tab kw4).kw fs4.pre.gr.tab kw5')) (fun f s' hf=> ?_) fun _ _ x=>x
  ·unfold setL;rw[if_neg kD];exact lf3
  ·unfold setL;rw[if_neg kD];exact lt3
  ·unfold setL;rw[if_pos rfl]
  ·cases f with
   |ret v=>exact hf
   |next=>exact hf.elim
   |brk=>exact hf.elim
   |cont=>exact hf.elim
end
theorem among_snoc{pos:Pos}{a b:Int}{c cv:Value}(l:List Value)(h:TriplesOk l)(hs:codeAmong pos (l++[rawInt a,rawInt b,c])=some cv):codeAmong pos l=some cv∨cv=c:=by
 fun_induction TriplesOk l with
 |case1=>
  simp only[List.nil_append,codeAmong,rawInt] at hs
  split at hs
  ·cases hs;exact .inr rfl
  ·cases hs
 |case2 a' t b' u x rest ih=>
  simp only[List.cons_append,codeAmong] at hs ⊢
  split at hs
  ·rename_i hc;rw[if_pos hc];exact .inl hs
  ·rename_i hc;rw[if_neg hc];exact ih h hs
 |case3 l h1 h2=>exact h.elim
theorem among_ne{pos:Pos}{cv:Value}(l:List Value)(h:TriplesOk l)(hs:codeAmong pos l=some cv):∀x t,l[1]? ≠some (.str x t):=by
 intro x t e
 match l,h with
 |[],_=>cases e
 | .int _ _:: .int _ _::_::_,_=>cases e
section
variable{C:Cx}{n:Nat}{r:Ev}{k:Bool}{A:Around}{env:Env}{Y Y' W J:List Addr}{OL N:List (Str×Addr)}{l l':Loc}{s s' s'' s1 s2:Shared}{Z Z':Addr→Prop}
theorem TabTo.row{h h':Heap}{c':Addr}{ps:Array Value}{a b:Int}(hP:h.get? C.P=some (tabObj ps))(hk:∀b o,b≠C.P→h.get? b=some o→h'.get? b=some o)(hP':h'.get? C.P=some (tabObj (ps++ #[rawInt a,rawInt b,.ref c'])))(hr:h'.CodeRec (.ref c') C.lq)(hn:h.get? c'=none):TabTo C h h':=fun x=>by
 obtain⟨ps',h1,h2,h3⟩:=x
 rw[hP] at h1
 simp only[tabObj,Option.some.injEq,Obj.mk.injEq,Data.fields.injEq,true_and,and_true] at h1
 subst h1
 have e:(ps++ #[rawInt a,rawInt b,.ref c']).toList=ps.toList++[rawInt a,rawInt b,.ref c']:=by simp
 refine⟨⟨_,hP',by rw[e];exact TriplesOk_snoc a b _ _ h2,fun pos cv hc=> ?_⟩,fun c hc=> ?_⟩
 ·rw[e] at hc
  rcases among_snoc _ h2 hc with hc|rfl
  ·obtain⟨c,o,vs,t,rfl,ho,hd,hv⟩:=h3 pos cv hc
   refine⟨c,o,vs,t,rfl,hk c o (fun e'=> ?_) ho,hd,hv⟩
   subst e'
   rw[hP] at ho;cases ho
   simp only[tabObj,Data.fields.injEq] at hd
   subst hd
   exact among_ne _ h2 hc C.lq t (by simpa using hv)
  ·exact hr
 ·obtain⟨ps2,pos,e1,e2⟩:=hc
  rw[hP'] at e1
  simp only[tabObj,Option.some.injEq,Obj.mk.injEq,Data.fields.injEq,true_and,and_true] at e1
  subst e1
  rw[e] at e2
  rcases among_snoc _ h2 e2 with h|h
  ·exact .inl ⟨ps,pos,hP,h⟩
  ·cases h;exact .inr hn
end
section
variable{C:Cx}{n:Nat}{r:Ev}{k:Bool}{A:Around}{env:Env}{Y Y' W J:List Addr}{OL N:List (Str×Addr)}{l l':Loc}{s s' s'' s1 s2:Shared}{Z Z':Addr→Prop}
structure OkLam(k:Bool)(sc:Scope)(ps:Arguments)(scl:Scope):Prop where
 k:k=true
 plain:plainP ps=true
 d1:ps.defaults=[]
 d2:ps.kw_defaults=[]
 co:scl.isCoroutine=false
 gen:scl.isGenerator=false
 kind:scl.kind= .function
 nodup:(scl.names.map (·.1)).Nodup
 par:∀a∈ps.args,scl.names.lookup a.arg=some .local∨scl.names.lookup a.arg=some .cell
 free:∀p∈scl.names,p.2= .free→sc.names.lookup p.1=some .cell∨sc.names.lookup p.1=some .free
theorem okLam_of{sc scl:Scope}{ps:Arguments}{body:Expr}{pos:Pos}(h:okLam k sc (.Lambda ps body scl pos)=true):OkLam k sc ps scl:=by
 unfold okLam at h
 simp only[Bool.and_eq_true,Bool.not_eq_true',decide_eq_true_eq,List.all_eq_true,List.isEmpty_iff] at h
 obtain⟨⟨⟨⟨⟨⟨⟨⟨⟨h0,h1⟩,h2⟩,h3⟩,h4⟩,h5⟩,h6⟩,h7⟩,h8⟩,h9⟩:=h
 exact⟨h0,h1,h2,h3,h4,h5,h6,h7,h8,h9⟩
abbrev lamFn(C:Cx)(ps:Arguments)(body:Expr)(scl:Scope)(clos:List (Str×Addr))(pm ctv:Value)(c':Addr):FuncData:=kla_fn "<lambda>" C.lq ps body scl clos pm (.ref c') ctv
theorem lam_make{ps:Arguments}{body:Expr}{scl:Scope}{pos:Pos}{Q:Value→Shared→Prop}(p:Pre C n k A env Y l s)(ok:OkLam k env.scope ps scl)
  (q:∀f c' pm ctv s',KP C s s'→s.heap.get? f=none→s'.heap.get? f=some { cls:= .type "function",data:= .func (lamFn C ps body scl (closL env.cells scl.names []) pm ctv c') }→s'.heap.CodeRec (.ref c') C.lq→Q (.ref f) s'):
  wpAny C.M A (eval (.Lambda ps body scl pos) env) Q NE s:=by
 have hdef:defaultsOf ps env=([],[]):=by
  obtain⟨a1,a2,a3,a4,a5,a6,a7⟩:=ps
  have h1:a7=[]:=ok.d1
  have h2:a5=[]:=ok.d2
  subst h1 h2;rfl
 obtain⟨hcode,hqual⟩:=p.eo.lam ok.k
 refine kla_eval hdef ?_
 have hclos:closureFor scl env=pure (closL env.cells scl.names []):=closureFor_eq fun q hq hf=>p.eo.cells q.1 (ok.free q hq hf)
 obtain⟨ptab,hP,htr,hrec⟩:=p.gr.tab
 have hd:CodeHd s.heap C.c C.P:=p.bs.hd.keeps p.gr.keep
 have hg:=p.gr.globals p.bs
 obtain⟨bm,ob,b1,b2,b3,b4,b5,b6,b7⟩:=p.bs.bat
 have hbP:bm≠C.P:=fun e=>by rw[e,p.bs.hP] at b4;cases b4
 have hbat:s.heap.BuiltinsAt C.mg C.P:=⟨bm,ob,b1,b2,b3,hbP,p.gr.keep _ _ b4,b5,b6,b7⟩
 have hgP:mainGlobals≠C.P:=fun e=>by
  obtain⟨o,es,ep,ho,_⟩:=p.bs.g
  rw[e,p.bs.hP] at ho;cases ho
 rw[hqual]
 cases hc:codeAmong pos ptab.toList with
 |none=>
  refine toksOf (kla_makeFunction hclos p.eo.glob hg hcode hd hP htr hc hgP hbat fun c' ctv h' tk hx hge hlt hcr htb ht=> ?_)
  have hcn:s.heap.get? c'=none:=none_of fun⟨o,e⟩=>absurd (Heap.lt_size e) (Nat.not_lt.mpr hge)
  have hkeep:∀b o,b≠C.P→s.heap.get? b=some o→(h'.push (kla_obj "<lambda>" C.lq ps body scl (closL env.cells scl.names []) ((C.mg "__name__").getD .none) c' ctv)).get? b=some o:=fun b o hb e=>zpO _ (hx b o hb e)
  refine q h'.objs.size c' _ ctv _ ⟨_,tk,rfl,ht,hkeep,TabTo.row hP hkeep (zpO _ htb) (hcr.push _) hcn⟩ ?_ (Heap.get?_push_size _ rfl) (hcr.push _)
  exact none_of fun⟨o,e⟩=>by
   have h1:=Heap.lt_size e
   have h2:s.heap.objs.size<h'.objs.size:=Nat.lt_of_le_of_lt hge hlt
   exact Nat.lt_irrefl _ (Nat.lt_trans h1 h2)
 |some cv=>
  refine toksOf (kla_makeFunctionHit hclos p.eo.glob hg hcode hd hP htr hc hbat fun ctv h' tk hk hsz ht=> ?_)
  have hcr:=hrec pos cv hc
  obtain⟨c',oc,vs,t,rfl,ho,hdd,hv⟩:=id hcr
  refine q h'.objs.size c' _ ctv _ (KP.of ht fun b o e=>zpO _ (hk b o e)) ?_ (Heap.get?_push_size _ rfl) ((hcr.keeps hk).push _)
  exact none_of fun⟨o,e⟩=>absurd (Heap.lt_size e) (Nat.not_lt.mpr hsz)
theorem bindPL_lookup:∀{xs:List Str} {ds:List D} {l0 l1:Loc},bindPL l0 xs ds=some l1→∀x,l1 x=((xs.zip ds).lookup x).or (l0 x)
 |[],[],l0,l1,h,x=>by cases h;rfl
 |[],_::_,l0,l1,h,x=>by cases h
 |_::_,[],l0,l1,h,x=>by cases h
 |y::xs,d::ds,l0,l1,h,x=>by
  obtain⟨l2,h0,rfl⟩:=Option.map_eq_some_iff.mp (show (bindPL l0 xs ds).map (fun l=>setL l y d)=some l1 from h)
  unfold setL
  rw[List.zip_cons_cons,List.lookup_cons]
  by_cases e:x=y
  ·subst e;simp
  ·have e':(x==y)=false:=by simpa using e
   rw[if_neg e,e',bindPL_lookup h0 x]
theorem bindPL_len:∀{xs:List Str} {ds:List D} {l0 l1:Loc},bindPL l0 xs ds=some l1→xs.length=ds.length
 |[],[],l0,l1,h=>rfl
 |[],_::_,l0,l1,h=>by cases h
 |_::_,[],l0,l1,h=>by cases h
 |y::xs,d::ds,l0,l1,h=>by
  obtain⟨l2,h0,_⟩:=Option.map_eq_some_iff.mp (show (bindPL l0 xs ds).map (fun l=>setL l y d)=some l1 from h)
  rw[List.length_cons,List.length_cons,bindPL_len h0]
theorem lam_call{m:Nat}{B:Around}(S:SE C m r){ps:Arguments}{body:Expr}{scl:Scope}{f c':Addr}{pm ctv:Value}{as:List D}{vs:List Value}{d:D}{l1:Loc}{Q:Value→Shared→Prop}(p:Pre C n k A env Y l s)(ok:OkLam k env.scope ps scl)
  (room:CRoom m B) (ho:s.heap.get? f=some { cls:= .type "function",data:= .func (lamFn C ps body scl (closL env.cells scl.names []) pm ctv c') }) (hcr:s.heap.CodeRec (.ref c') C.lq)
  (hb:bindPL (compLoc scl l) (ps.args.map (·.arg)) as=some l1) (he:r.E false scl l1 body=some d) (hr:RDs C s.heap Y vs as) (q:∀v s',KP C s s'→RD C s'.heap Y v d→Q v s'):
  wpAny C.M B (call (.ref f) vs) Q NE s:=by
 have hdep:=room.depth
 have hlen:(ps.args.map (·.arg)).length=vs.length:=(bindPL_len hb).trans hr.length.symm
 refine wpAny_call (kla_callFunE (fd:=lamFn C ps body scl (closL env.cells scl.names []) pm ctv c') (body:=body) (by have:recursionLimit=1000:=rfl;omega) ho rfl ok.co ok.gen rfl hcr ?_)
 rw[bindArgs_plain ok.plain rfl (by show ps.args.length=vs.length;simpa using hlen)]
 refine wpAny_pure (ne ?_)
 have hnames:((fun x:Arg=>x.arg)<$> ps.args)=ps.args.map (·.arg):=rfl
 have hnd:(((ps.args.map (·.arg)).zip vs).map (·.1)).Nodup:=by
  rw[List.map_fst_zip kO]
  have h1:=ok.plain
  unfold plainP at h1
  simp only[Bool.and_eq_true,decide_eq_true_eq] at h1
  exact h1.2
 have hap:=closL_apart p.fm.apart scl.names [] ok.nodup (fun _ h=>by cases h) List.Pairwise.nil
 refine newEnv_sound ok.kind (fun x hx=> ?_) (fun x hx=> ?_) (fun q hq=> ?_) hap fun env' h' tk he' ht hk fm hv=> ?_
 ·have:=(List.of_mem_zip hx).1
  obtain⟨a,ha,hx2⟩:=zmap.mp this
  rw[←hx2];exact ok.par a ha
 ·have hm:=mem_of_lookup' hx
  obtain⟨c,hcc⟩:=Option.isSome_iff_exists.mp (p.eo.cells x (ok.free _ hm rfl))
  rw[closL_lookup hm hcc];rfl
 ·rcases closL_mem scl.names [] q hq with h|⟨h,_⟩
  ·cases h
  ·exact p.fm.cl _ (mem_of_lookup h)
 ·generalize hL:s.heap.objs.size=L at he'
  have hloc:env'.locals=L:=by rw[he'];rfl
  have hcells:env'.cells=cellsFrom (L+1) scl.names (closL env.cells scl.names []):=by rw[he'];rfl
  have hsc:env'.scope=scl:=by rw[he'];rfl
  have kp:KP C s { s with heap:=h',toks:=tk }:=KP.of ht hk
  have wf:=cells_wf scl.names (s.heap.push (lstO [] 0)) (closL env.cells scl.names []) (fun q hq=>by
   rcases closL_mem scl.names [] q hq with h|⟨h,_⟩
   ·cases h
   ·obtain⟨v,hv⟩:=p.fm.cl _ (mem_of_lookup h)
    exact⟨v,hv.keeps fun b o e=>zpO _ e⟩) hap
  rw[Heap.size_push,hL] at wf
  have hcW:∀q∈env'.cells,q.2∈frameW env'∨q.2∈Y:=fun q hq=>by
   rcases wf.2.2 q (hcells▸hq) with h|h
   ·rcases closL_mem scl.names [] q h with h|⟨h,_⟩
    ·cases h
    ·exact .inr (p.hc _ (mem_of_lookup h))
   ·exact .inl (zmC _ (zfil.mpr ⟨List.mem_map_of_mem (f:=(·.2)) hq,by rw[hloc];exact decide_eq_true h⟩))
  have hWn:∀a∈frameW env',s.heap.get? a=none:=fun a ha=>by
   have hge:L≤a:=by
    rcases zcon.mp ha with e|ha
    ·rw[e,hloc];exact Nat.le_refl _
    ·have:=of_decide_eq_true (zfil.mp ha).2
     rw[hloc] at this
     exact Nat.le_of_lt this
   exact none_of fun⟨o,e⟩=>by
    have:=Heap.lt_size e
    rw[hL] at this
    exact absurd hge (Nat.not_le.mpr this)
  have hWe:∀a∈frameW env',∃o,h'.get? a=some o:=fun a ha=>by
   rcases zcon.mp ha with e|ha
   ·obtain⟨m,o,es,ep,ho,_⟩:=fm.ns
    exact⟨o,e▸ho⟩
   ·obtain⟨q,hq,rfl⟩:=zmap.mp (zfil.mp ha).1
    obtain⟨v,o,ho,_⟩:=fm.cl q hq
    exact⟨o,ho⟩
  have rs':RDs C h' (frameW env'++Y) vs as:=RDs.moreL (J:=frameW env') kp p.hP hWn (fun b hb=>zapp.mp hb) hr
  have view':∀a o,view s.heap Y a=some o→view h' (frameW env'++Y) a=some o:=fun a o e=>by
   obtain⟨e,nn⟩:=view_get e
   refine view_of (hk a o e) fun hm=> ?_
   rcases zapp.mp hm with h|h
   ·rw[hWn a h] at e;cases e
   ·exact nn h
  have pre:Pre C m false (B.deeper env') env' (frameW env'++Y) l1 { s with heap:=h',toks:=tk }:=by
   refine⟨p.bs,room.deeper,⟨by rw[hsc];exact ok.kind,by rw[he'];rfl,by rw[he'];rfl,fun x hx=> ?_,fun h=>by cases h⟩,p.gr.kp p.bs kp,zmr _ p.hP,fun a ha=> ?_,fun a ha=> ?_,fm,fun q hq=>zapp.mpr (hcW q hq),fun x d hx=> ?_⟩
   ·rw[hcells]
    rcases hx with hx|hx
    ·exact cells_isSome _ _ _ _ (.inl (by rw[←hsc];exact hx))
    ·have hx':scl.names.lookup x=some .free:=by rw[←hsc];exact hx
     have hm:=mem_of_lookup' hx'
     obtain⟨c,hcc⟩:=Option.isSome_iff_exists.mp (p.eo.cells x (ok.free _ hm rfl))
     refine cells_isSome _ _ _ _ (.inr ?_)
     rw[closL_lookup hm hcc];rfl
   ·rcases zapp.mp ha with h|h
    ·exact none_of fun⟨o,ho⟩=>by
      have:=hWn a h
      rw[p.gr.keep _ o ho] at this;cases this
    ·exact p.hY a h
   ·rcases zapp.mp ha with h|h
    ·exact hWe a h
    ·obtain⟨o,ho⟩:=p.hYs a h
     exact⟨o,hk _ _ ho⟩
   ·rw[bindPL_lookup hb x] at hx
    cases hz:((ps.args.map (·.arg)).zip as).lookup x with
    |some d'=>
     rw[hz] at hx;cases hx
     obtain⟨v,hv1,rv⟩:=zip_R rs' x d hz
     exact⟨v,hv x v (by rw[lookup_reverse hnd];exact hv1),rv⟩
    |none=>
     rw[hz] at hx
     have hx:compLoc scl l x=some d:=hx
     unfold compLoc at hx
     split at hx
     ·rename_i hf
      have hm:=mem_of_lookup' hf
      obtain⟨v,va,rv⟩:=p.loc x d hx
      refine⟨v,?_,Mine.R.mono view' rv⟩
      rcases va with ⟨hkk,_⟩|⟨hkk,c,hc,hv⟩
      ·have hk':env.scope.names.lookup x=some .local:=hkk
       rcases ok.free _ hm rfl with h|h
       ·rw[h] at hk';cases hk'
       ·rw[h] at hk';cases hk'
      ·refine .inr ⟨.inr (by show env'.scope.names.lookup x=_;rw[hsc];exact hf),c,?_,hv.keeps hk⟩
       rw[hcells,cells_lookup scl.names (L+1) _ x fun q hq e1 e2=> ?_]
       ·exact closL_lookup hm hc
       ·have:=lookup_of_nodup ok.nodup (show (x,NameKind.cell)∈scl.names by rw[←e1,←e2];exact hq)
        rw[hf] at this;cases this
     ·cases hx
  refine⟨p.bs.nolimit.keeps (p.gr.kp p.bs kp).keep,kla_codeExpr ?_⟩
  refine ne (S.at pre (by rw[hsc];exact he) fun v s2 kp2 p2 rv=> ?_)
  exact q v s2 (kp.trans kp2) (Mine.R.mono (view_sub fun a ha=>zmr _ ha) rv)
end
section
variable{C:Cx}{n:Nat}{r:Ev}{k:Bool}{A:Around}{env:Env}{Y Y' W J:List Addr}{OL N:List (Str×Addr)}{l l':Loc}{s s' s'' s1 s2:Shared}{Z Z':Addr→Prop}
theorem Pre.subset(p:Pre C n k A env Y l s)(h:∀a∈Y',a∈Y)(hP:C.P∈Y')(hc:∀p∈env.cells,p.2∈Y'):Pre C n k A env Y' l s:=
 ⟨p.bs,p.a,p.eo,p.gr,hP,fun a ha=>p.hY a (h a ha),fun a ha=>p.hYs a (h a ha),p.fm,hc,fun x d e=>by
  obtain⟨v,a,rv⟩:=p.loc x d e
  exact⟨v,a,Mine.R.mono (view_sub h) rv⟩⟩
theorem foldD_acc{g:Expr}:∀{its:List D} {d0 d':D},foldD r l g d0 its=some d'→∃acc:Nat→D,acc 0=d0∧acc its.length=d'∧∀j d,its[j]? =some d→applyD r l g [acc j,d]=some (acc (j+1))
 |[],d0,d',h=>by
  cases h
  exact⟨fun _=>d0,rfl,rfl,fun j d e=>by simp at e⟩
 |d::ds,d0,d',h=>by
  obtain⟨d1,h1,h2⟩:=zbs.mp (show (applyD r l g [d0,d]).bind (fun a'=>foldD r l g a' ds)=some d' from h)
  obtain⟨acc,a0,a1,a2⟩:=foldD_acc h2
  refine⟨fun j=>match j with|0=>d0|j+1=>acc j,rfl,a1,fun j e hj=> ?_⟩
  cases j with
  |zero=>
   simp at hj;subst hj
   show applyD r l g [d0,d]=some (acc 0)
   rw[a0];exact h1
  |succ j=>exact a2 j e (by simpa using hj)
structure LI(C:Cx)(n:Nat)(k:Bool)(A:Around)(env:Env)(l:Loc)(acc:Nat→D)(f c':Addr)(fo co:Obj)(Y:List Addr)(j:Nat)(v:Value)(s:Shared):Prop where
 pre:Pre C n k A env Y l s
 rv:RD C s.heap Y v (acc j)
 f:s.heap.get? f=some fo
 c:s.heap.get? c'=some co
theorem lam_fold(S:SE C n r){ps:Arguments}{body:Expr}{scl:Scope}{pos:Pos}{f c':Addr}{pm ctv:Value}{acc:Nat→D}{its:List D}{co:Obj}{cvs:Array Value}{ct:Tok}(p:Pre C (n+1) k A env Y l s)(ok:OkLam k env.scope ps scl)
  (hf:s.heap.get? f=some { cls:= .type "function",data:= .func (lamFn C ps body scl (closL env.cells scl.names []) pm ctv c') }) (hc:s.heap.get? c'=some co) (hcd:co.data= .fields cvs) (hcv:cvs[1]? =some (.str C.lq ct))
  (hacc:∀j d,its[j]? =some d→applyD r l (.Lambda ps body scl pos) [acc j,d]=some (acc (j+1))):
  FoldC C n A f (LI C (n+1) k A env l acc f c' { cls:= .type "function",data:= .func (lamFn C ps body scl (closL env.cells scl.names []) pm ctv c') } co) its (fun _=>False) s Y where
 zf:=fun b h=>h.elim
 fobj:=fun Y j v s h=>⟨_,_,h.f,rfl⟩
 call:=fun envR Y2 j va vd d s2 Q ha g hP hY hYs hY0 hI hj hd _ _ _ _ _ q=>by
  obtain⟨l1,h1,h2⟩:=zbs.mp (show (bindPL (compLoc scl l) (ps.args.map (·.arg)) [acc j,d]).bind (fun l'=>r.E false scl l' body)=some (acc (j+1)) from hacc j d hj)
  have a1:=p.a
  have room:CRoom n (A.deeper envR):=⟨a1.handled,by have:=a1.depth;show A.depth+1+1+3 * n<900;omega,by have:=a1.units;show A.units+3+4+40 * n<9000;omega⟩
  refine lam_call S hI.pre ok room hI.f ⟨c',co,cvs,ct,rfl,hI.c,hcd,hcv⟩ h1 h2 (.cons hI.rv (.cons hd .nil)) fun v' s' kp rv=>q v' s' kp.kw (fun m hn=>hn.at fun o e=>kp.heap (tab_no_ns g.tab hn) e) ⟨hI.pre.kp kp,rv,kp.heap (fun e=> ?_) hI.f,kp.heap (fun e=> ?_) hI.c⟩
  ·have:=p.gr.ne hf (by intro h;cases h)
   exact this e
  ·subst e
   obtain⟨ptab,hP',htr,_⟩:=hI.pre.gr.tab
   rw[hI.c] at hP';cases hP'
   simp only[tabObj,Data.fields.injEq] at hcd
   subst hcd
   obtain⟨ptab2,hP2,htr2,_⟩:=p.gr.tab
   match hl:ptab.toList,htr with
   |[],_=>simp at hl;subst hl;cases hcv
   | .int _ _:: .int _ _::_::_,_=>
     have:ptab.toList[1]? =some (.str C.lq ct):=by simpa using hcv
     rw[hl] at this;cases this
 kw:=fun Y2 j v s2 s3 Z hI kw hZ hP t=>by
  have hl:¬Z env.locals:=fun hz=>by
   obtain⟨m,o,es,ep,ho,_⟩:=p.fm.ns
   rw[(hZ _ hz).2] at ho;cases ho
  have hcz:∀q∈env.cells,¬Z q.2:=fun q hq hz=>by
   obtain⟨v,o,ho,_⟩:=p.fm.cl q hq
   rw[(hZ _ hz).2] at ho;cases ho
  refine⟨hI.pre.kw kw (fun b hb=>(hZ b hb).1) hl hcz,RD.kw kw hP (fun b hb=>(hZ b hb).1) hI.rv,kw.heap (p.gr.ne hf (by intro h;cases h)) (fun hz=>by rw[(hZ _ hz).2] at hf;cases hf) hI.f,kw.heap (fun e=> ?_) (fun hz=>by rw[(hZ _ hz).2] at hc;cases hc) hI.c⟩
  subst e
  obtain⟨ptab,hP',htr,_⟩:=hI.pre.gr.tab
  rw[hI.c] at hP';cases hP'
  simp only[tabObj,Data.fields.injEq] at hcd
  subst hcd
  match hl:ptab.toList,htr with
  |[],_=>simp at hl;subst hl;cases hcv
  | .int _ _:: .int _ _::_::_,_=>
    have:ptab.toList[1]? =some (.str C.lq ct):=by simpa using hcv
    rw[hl] at this;cases this
 more:=fun Y2 Y3 J j v s2 s3 hI kp hn he h1 h2 hP=>by
  refine⟨hI.pre.moreL kp hn he h1 h2,?_,kp.heap (p.gr.ne hf (by intro h;cases h)) hI.f,kp.heap (fun e=> ?_) hI.c⟩
  ·have:=RDs.moreL kp hP hn h1 (.cons hI.rv .nil)
   cases this with|cons h _=>exact h
  ·subst e
   obtain⟨ptab,hP',htr,_⟩:=hI.pre.gr.tab
   rw[hI.c] at hP';cases hP'
   simp only[tabObj,Data.fields.injEq] at hcd
   subst hcd
   match hl:ptab.toList,htr with
   |[],_=>simp at hl;subst hl;cases hcv
   | .int _ _:: .int _ _::_::_,_=>
     have:ptab.toList[1]? =some (.str C.lq ct):=by simpa using hcv
     rw[hl] at this;cases this
 last:=fun Y2 J j v s2 s3 hI kj hJ hY0 hP=>by
  have hsub:∀a∈Y2,a∈J++Y2:=fun a ha=>zmr _ ha
  have hlJ:env.locals∉J:=fun hm=>by
   obtain⟨m,o,es,ep,ho,_⟩:=p.fm.ns
   rw[(hJ _ hm).1] at ho;cases ho
  refine⟨hI.pre.lastJ kj hsub (fun a ha=>⟨zmL _ ha,(hJ a ha).2⟩) hP (fun q hq=>hY0 _ (p.hc q hq)) hlJ,?_,kj.heap (fun hm=>by rw[(hJ _ hm).1] at hf;cases hf) hI.f,kj.heap (fun hm=>by rw[(hJ _ hm).1] at hc;cases hc) hI.c⟩
  have:=RDs.lastJ kj hsub (fun a ha=>zmL _ ha) (.cons hI.rv .nil)
  cases this with|cons h _=>exact h
 sub:=fun Y2 Y3 j v s2 hI h1 h2=>⟨hI.pre.subset h1 (h2 _ p.hP) (fun q hq=>h2 _ (p.hc q hq)),Mine.R.mono (view_sub h1) hI.rv,hI.f,hI.c⟩
end
section
variable{C:Cx}{n:Nat}{r:Ev}{k:Bool}{A:Around}{env:Env}{Y Y' W J:List Addr}{OL N:List (Str×Addr)}{l l':Loc}{s s' s'' s1 s2:Shared}{Z Z':Addr→Prop}
theorem okLam_shape{sc:Scope}{g:Expr}(h:okLam k sc g=true):∃ps body scl pos,g= .Lambda ps body scl pos:=by
 cases g <;> first|exact⟨_,_,_,_,rfl⟩|(cases h)
theorem lam_star(ps:Arguments)(body:Expr)(scl:Scope)(pos:Pos):isStarred (.Lambda ps body scl pos)=false:=rfl
theorem reduceE(S:SE C n r){g:Expr}{rest:List Expr}{np pos:Pos}{d:D}{Q:Value→Shared→Prop}(p:Pre C (n+1) k A env Y l s)(ok:okLam k env.scope g=true)(hk:env.kindOf "reduce"=some .globalImplicit)(hplain:(backTo pos (starEach rest env)).any (·.1)=false)
  (h:∀(s1:Shared),Pre C (n+1) k A env Y l s1→∀(R:List Value→Shared→Prop),(∀vs sv v0 ds its d0 s2,KP C s1 s2→Pre C (n+1) k A env Y l s2→RD C s2.heap Y sv (.list ds)→RD C s2.heap Y v0 d0→foldD r l g d0 its=some d→
    ((vs=[sv,v0]∧ds=its∧((∃x o,v0= .ref x∧s2.heap.get? x=some o∧(o.cls= .type "list"∨o.cls= .type "tuple"))∨∃i t,v0= .int i t))∨
      (vs=[sv]∧∃a,ds=a::its∧∃l0 ws m,sv= .ref l0∧s2.heap.get? l0=some (lstO (v0::ws) m)))→R vs s2)→
   wpAny C.M A (spliced (backTo pos (starEach rest env))) R NE s1)
  (q:Kq C Y d s Q):wpAny C.M A (eval (.Call (.Name "reduce" np) (g::rest) [] pos) env) Q NE s:=by
 obtain⟨ps,body,scl,lp,rfl⟩:=okLam_shape ok
 have okl:=okLam_of ok
 obtain⟨fn,ar,o,pm,code,doc,dt,ai,odt,nt,oi,rf,hm,ho,hd,_⟩:=p.bs.red
 refine Call_Name rfl (E_global p hk hm kD ?_)
 rw[starEach_plain (lam_star ps body scl lp)]
 refine callWith_function (o:=o) (fd:={ docDef "reduce" fn.params fn.body fn.scope pm code doc with defaults:= .ref dt }) (evalArgs_plain (spliced_cons (lam_make p okl fun f c' pm' ctv s1 kp1 hfn hf hcr=> ?_)))
 have p1:=p.kp kp1
 refine h s1 p1 _ fun vs sv v0 ds its d0 s2 kp2 p2 hsv hv0 hfold hargs=>⟨⟨p2.gr.keep _ _ ho,hd⟩,?_⟩
 obtain⟨acc,a0,a1,a2⟩:=foldD_acc hfold
 obtain⟨c2,co,cvs,ct,e2,hc,hcd,hcv⟩:=hcr
 cases e2
 have hf2:=kp2.heap (p1.gr.ne hf (by intro h;cases h)) hf
 have hc2:s2.heap.get? c'=some co:=kp2.heap (fun e=>by
  subst e
  obtain⟨ptab,hP',htr,_⟩:=p1.gr.tab
  rw[hc] at hP';cases hP'
  simp only[Data.fields.injEq] at hcd
  subst hcd
  match hl:ptab.toList,htr with
  |[],_=>simp at hl;subst hl;cases hcv
  | .int _ _:: .int _ _::_::_,_=>
    have:ptab.toList[1]? =some (.str C.lq ct):=by simpa using hcv
    rw[hl] at this;cases this) hc
 have fc:=lam_fold (pos:=lp) S p2 okl hf2 hc2 hcd hcv a2
 have room:CRoom n A:=p.a.room
 refine reduce_sound (n:=n) (its:=its) (sv:=sv) (v0:=v0) (ds:=ds) p.bs p2.gr p2.hP p2.hY p2.hYs hm room fc ⟨p2,by rw[a0];exact hv0,hf2,hc2⟩ hsv ?_ fun v s3 kw hI=> ?_
 ·rcases hargs with ⟨rfl,h1,h2⟩|⟨rfl,h1⟩
  ·exact .inl ⟨rfl,h1,h2⟩
  ·exact .inr ⟨rfl,h1⟩
 ·have:=hI.rv
  rw[a1] at this
  exact q v s3 ((kp1.trans kp2).trans (KP.of_kw kw)) this
theorem reduce2_sound(S:SE C n r){g e:Expr}{np pos:Pos}{a d:D}{ds:List D}{Q:Value→Shared→Prop}(p:Pre C (n+1) k A env Y l s)(ok:okLam k env.scope g=true)(hk:env.kindOf "reduce"=some .globalImplicit)(hst:isStarred e=false)
  (he:r.E k env.scope l e=some (.list (a::ds))) (hf:foldD r l g a ds=some d) (q:Kq C Y d s Q):wpAny C.M A (eval (.Call (.Name "reduce" np) [g,e] [] pos) env) Q NE s:=by
 refine reduceE S p ok hk (plain_any fun x hx=>by simp at hx;subst hx;exact hst) (fun s1 p1 R hR=> ?_) q
 rw[starEach_plain hst]
 refine spliced_cons (S.at (p1.mono (Nat.le_succ n)) he fun v s2 kp p2 rv=>spliced_nil ?_)
 obtain⟨ad,vs,m,rfl,hv,rs⟩:=id rv.list_inv
 match vs,rs with
 |w::ws,.cons rw rws=>exact hR [.ref ad] (.ref ad) w (a::ds) ds a s2 kp (p1.kp kp) rv rw hf (.inr ⟨rfl,a,rfl,ad,ws,m,rfl,(view_get hv).1⟩)
theorem reduce3_sound(S:SE C n r){g e i:Expr}{np pos:Pos}{a d:D}{ds:List D}{Q:Value→Shared→Prop}(p:Pre C (n+1) k A env Y l s)(ok:okLam k env.scope g=true)(hk:env.kindOf "reduce"=some .globalImplicit)(hst:isStarred e=false)(hst2:isStarred i=false)
  (he:r.E k env.scope l e=some (.list ds)) (hi:r.E k env.scope l i=some a) (ha:(∃x,a= .list x)∨∃x,a= .int x) (hf:foldD r l g a ds=some d) (q:Kq C Y d s Q):wpAny C.M A (eval (.Call (.Name "reduce" np) [g,e,i] [] pos) env) Q NE s:=by
 refine reduceE S p ok hk (plain_any fun x hx=>by simp at hx;rcases hx with rfl|rfl;exact hst;exact hst2) (fun s1 p1 R hR=> ?_) q
 rw[starEach_plain hst,starEach_plain hst2]
 refine spliced_cons (S.at (p1.mono (Nat.le_succ n)) he fun v s2 kp p2 rv=>spliced_cons (S.at p2 hi fun u s3 kp3 p3 ru=>spliced_nil ?_))
 refine hR [v,u] v u ds ds a s3 (kp.trans kp3) (p1.kp (kp.trans kp3)) (rv.kp kp3 p.hP) ru hf (.inl ⟨rfl,rfl,?_⟩)
 rcases ha with ⟨x,rfl⟩|⟨x,rfl⟩
 ·obtain⟨ad,vs,m,rfl,hv,_⟩:=ru.list_inv
  exact .inl ⟨ad,_,rfl,(view_get hv).1,.inl rfl⟩
 ·obtain⟨t,rfl⟩:=ru.int_inv
  exact .inr ⟨x,t,rfl⟩
end
section
variable{C:Cx}{n:Nat}{r:Ev}{k:Bool}{A:Around}{env:Env}{Y Y' W J:List Addr}{OL N:List (Str×Addr)}{l l':Loc}{s s' s'' s1 s2:Shared}{Z Z':Addr→Prop}{Q:Value→Shared→Prop}
theorem name_sound{x:Str}{pos:Pos}{d:D}(p:Pre C n k A env Y l s)(h:stepE C.fns C.glob r k env.scope l (.Name x pos)=some d)(q:Kq C Y d s Q):wpAny C.M A (eval (.Name x pos) env) Q NE s:=by
 have h:(if (x==("__debug__":Str)||x==("__classdict__":Str))=true then none else match env.scope.names.lookup x with
  |some .local=>l x
  |some .cell=>l x
  |some .free=>l x
  |some .globalImplicit=>if (C.fns.lookup x).isSome then none else C.glob.lookup x
  |_=>none)=some d:=h
 split at h
 ·cases h
 ·rename_i hx
  simp only[Bool.or_eq_true,not_or,Bool.not_eq_true] at hx
  obtain⟨h1,h2⟩:=hx
  have var:l x=some d→wpAny C.M A (eval (.Name x pos) env) Q NE s:=fun hl=>by
   obtain⟨v,va,rv⟩:=p.loc x d hl
   exact E_var p va h1 h2 (q v s (KP.refl s) rv)
  split at h
  ·exact var h
  ·exact var h
  ·exact var h
  ·rename_i hk
   split at h
   ·cases h
   ·obtain⟨v,hv,rv⟩:=p.bs.gl x d h
    exact E_global p hk hv h1 (q v s (KP.refl s) (ground_view p.gr p.hY rv))
  ·cases h
theorem binop_sound(S:SE C n r){a b:Expr}{op:Operator}{pos:Pos}{d:D}(p:Pre C n k A env Y l s)(h:stepE C.fns C.glob r k env.scope l (.BinOp a op b pos)=some d)(q:Kq C Y d s Q):wpAny C.M A (eval (.BinOp a op b pos) env) Q NE s:=by
 have h:((r.E k env.scope l a).bind fun x=>(r.E k env.scope l b).bind fun y=>binD op x y)=some d:=h
 obtain⟨x,h1,h⟩:=zbs.mp h
 obtain⟨y,h2,h⟩:=zbs.mp h
 refine E_BinOp (S.at p h1 fun v s1 k1 p1 r1=>S.at p1 h2 fun u s2 k2 p2 r2=> ?_)
 exact bin_sound p2.hP p2.lt h (r1.kp k2 p.hP) r2 fun v s3 k3 r3=>q v s3 ((k1.trans k2).trans k3) r3
theorem unary_sound{i:Int}{kd:Nat}{p1 pos:Pos}(q:Kq C Y (.int (-i)) s Q):wpAny C.M A (eval (.UnaryOp .USub (.Constant (.int i) kd p1) pos) env) Q NE s:=
 wpAny_UnaryOp (wpAny_Constant_int (PyProof.Rows.neg_int (q _ _ (KP.tok (by show s.toks≤s.toks+1+1;omega)) (.int _ _))))
theorem and_sound(S:SE C n r){a b:Expr}{pos:Pos}{d:D}(p:Pre C n k A env Y l s)(h:stepE C.fns C.glob r k env.scope l (.BoolOp .And [a,b] pos)=some d)(q:Kq C Y d s Q):wpAny C.M A (eval (.BoolOp .And [a,b] pos) env) Q NE s:=by
 have h:((r.E k env.scope l a).bind fun x=>match x with
  | .bool true=>r.E k env.scope l b
  | .bool false=>some (.bool false)
  |_=>none)=some d:=h
 obtain⟨x,h1,h⟩:=zbs.mp h
 refine wpAny_And2 (S.at p h1 fun v s1 k1 p1 r1=> ?_)
 split at h
 ·rw[r1.bool_inv]
  refine wpAny_truthy_bool ?_
  simp only[if_true]
  exact S.at p1 h fun v s2 k2 p2 r2=>q v s2 (k1.trans k2) r2
 ·cases h
  rw[r1.bool_inv]
  refine wpAny_truthy_bool ?_
  simp only[Bool.false_eq_true,if_false]
  exact q _ _ k1 (.bool false)
 ·cases h
theorem ifexp_sound(S:SE C n r)(a1:AOk (n+1) A){t a b:Expr}{pos:Pos}{d:D}(p:Pre C n k A env Y l s)(h:stepE C.fns C.glob r k env.scope l (.IfExp t a b pos)=some d)(q:Kq C Y d s Q):wpAny C.M A (eval (.IfExp t a b pos) env) Q NE s:=by
 have h:((Bt r k env.scope l 4 t).bind fun c=>if c=true then r.E k env.scope l a else r.E k env.scope l b)=some d:=h
 obtain⟨c,h1,h⟩:=zbs.mp h
 refine wpAny_IfExp (Bt_sound S a1 4 p h1 fun s1 k1 p1=> ?_)
 cases c with
 |true=>exact S.at p1 h fun v s2 k2 p2 r2=>q v s2 (k1.trans k2) r2
 |false=>exact S.at p1 h fun v s2 k2 p2 r2=>q v s2 (k1.trans k2) r2
theorem compare_sound(S:SE C n r)(a1:AOk (n+1) A){a b:Expr}{op:CmpOp}{pos:Pos}{d:D}(p:Pre C n k A env Y l s)(h:stepE C.fns C.glob r k env.scope l (.Compare a [op] [b] pos)=some d)(q:Kq C Y d s Q):wpAny C.M A (eval (.Compare a [op] [b] pos) env) Q NE s:=by
 have h:(if isSetE b=true then none else (r.E k env.scope l a).bind fun x=>(r.E k env.scope l b).bind fun y=>(cmpD op x y).map .bool)=some d:=h
 split at h
 ·cases h
 ·rename_i hs
  obtain⟨x,h1,h⟩:=zbs.mp h
  obtain⟨y,h2,h⟩:=zbs.mp h
  obtain⟨c,h3,rfl⟩:=Option.map_eq_some_iff.mp h
  refine wpAny_Compare1 (S.at p h1 fun v s1 k1 p1 r1=>S.at p1 h2 fun u s2 k2 p2 r2=>cmp_sound a1 h3 (r1.kp k2 p.hP) r2 fun tk ht=> ?_) (notMarks (by simpa using hs))
  exact q _ _ ((k1.trans k2).trans (KP.tok ht)) (.bool c)
theorem listcomp_sound(S:SE C n r)(a1:AOk (n+1) A){elt:Expr}{gens:List Comprehension}{csc:Scope}{pos:Pos}{d:D}(p:Pre C n k A env Y l s)(h:stepE C.fns C.glob r k env.scope l (.ListComp elt gens csc pos)=some d)(q:Kq C Y d s Q):wpAny C.M A (eval (.ListComp elt gens csc pos) env) Q NE s:=by
 match gens with
 |[]=>cases h
 |g::gs=>
  obtain⟨its,h1,h⟩:=zbs.mp (show Option.bind ((r.E k env.scope l g.iter).bind iterD) _=some d from h)
  obtain⟨d1,h1,h2⟩:=zbs.mp h1
  split at h
  ·rename_i ok
   obtain⟨out,h3,h⟩:=zbs.mp h
   split at h
   ·rename_i hlen
    cases h
    have oc:=okC ok
    have hfa:firstAsync (g::gs)=false:=by
     have h0:=oc.sync g zmS
     cases g;simp only at h0;subst h0;rfl
    have hfi:firstIter (g::gs) env=eval g.iter env:=by cases g;rfl
    rw[arm_eval_ListComp,hfa,hfi]
    exact comp_none S a1 (kindL S fun g hg=>oc.sync g hg) p h1 h2 ok h3 hlen q
   ·cases h
  ·cases h
theorem dictcomp_sound(S:SE C n r)(a1:AOk (n+1) A){ke ve:Expr}{gens:List Comprehension}{csc:Scope}{pos:Pos}{d:D}(p:Pre C n k A env Y l s)(h:stepE C.fns C.glob r k env.scope l (.DictComp ke ve gens csc pos)=some d)(q:Kq C Y d s Q):wpAny C.M A (eval (.DictComp ke ve gens csc pos) env) Q NE s:=by
 match gens with
 |[]=>cases h
 |_::_::_=>cases h
 |[g]=>
  obtain⟨its,h1,h⟩:=zbs.mp (show Option.bind ((r.E k env.scope l g.iter).bind iterD) _=some d from h)
  obtain⟨d1,h1,h2⟩:=zbs.mp h1
  split at h
  ·rename_i ok
   have oc:=okC ok
   have hfa:firstAsync [g]=false:=by
    have h0:=oc.sync g zmS
    cases g;simp only at h0;subst h0;rfl
   have hfi:firstIter [g] env=eval g.iter env:=by cases g;rfl
   rw[arm_eval_DictComp,hfa,hfi]
   split at h
   ·rename_i ps h3
    split at h
    ·rename_i hlen
     obtain⟨m0,hm,rfl⟩:=Option.map_eq_some_iff.mp h
     exact comp_none S a1 (kindDS S (fun g hg=>oc.sync g hg) hm) p h1 h2 ok h3 hlen q
    ·cases h
   ·obtain⟨ps,h3,h⟩:=zbs.mp h
    split at h
    ·rename_i hlen
     obtain⟨m0,hm,rfl⟩:=Option.map_eq_some_iff.mp h
     exact comp_none S a1 (kindDI S (fun g hg=>oc.sync g hg) hm) p h1 h2 ok h3 hlen q
    ·cases h
  ·cases h
theorem list_sound(S:SE C n r){es:List Expr}{pos:Pos}{d:D}(p:Pre C n k A env Y l s)(h:stepE C.fns C.glob r k env.scope l (.List es pos)=some d)(q:Kq C Y d s Q):wpAny C.M A (eval (.List es pos) env) Q NE s:=by
 obtain⟨ds,h1,h⟩:=zbs.mp (show (Ess r k env.scope l es).bind (fun ds=>if ds.length≤lim then some (.list ds) else none)=some d from h)
 split at h
 ·rename_i hl;cases h
  exact List_sound S p h1 hl q
 ·cases h
theorem tuple_sound(S:SE C n r){es:List Expr}{kd:Nat}{pos:Pos}{d:D}(p:Pre C n k A env Y l s)(h:stepE C.fns C.glob r k env.scope l (.Tuple es kd pos)=some d)(q:Kq C Y d s Q):wpAny C.M A (eval (.Tuple es kd pos) env) Q NE s:=by
 obtain⟨ds,h1,h⟩:=zbs.mp (show (Ess r k env.scope l es).bind (fun ds=>if ds.length≤lim then some (.tup ds) else none)=some d from h)
 split at h
 ·rename_i hl;cases h
  exact Tuple_sound S p h1 hl q
 ·cases h
end
section
variable{C:Cx}{n:Nat}{r:Ev}{k:Bool}{A:Around}{env:Env}{Y Y' W J:List Addr}{OL N:List (Str×Addr)}{l l':Loc}{s s' s'' s1 s2:Shared}{Z Z':Addr→Prop}{Q:Value→Shared→Prop}
theorem part_sound(S:SE C n r){e:Option Expr}{o:Option Int}{s:Shared}{Q:Value→Shared→Prop}(p:Pre C n k A env Y l s)(h:partD r k env.scope l e=some o)(q:∀(ot:Option (Int×Tok)) s',ot.map (·.1)=o→KP C s s'→Pre C n k A env Y l s'→Q (partValue ot) s'):wpAny C.M A (evalPart e env) Q NE s:=by
 cases e with
 |none=>
  cases h
  exact wpAny_pure (q none s rfl (KP.refl s) p)
 |some e=>
  unfold partD at h
  simp only at h
  split at h
  ·rename_i i hi
   cases h
   refine evalPart_some_step (S.at p hi fun v s1 k1 p1 r1=> ?_)
   obtain⟨t,rfl⟩:=r1.int_inv
   exact q (some (i,t)) s1 rfl k1 p1
  ·cases h
theorem isPart_of(ot:Option (Int×Tok)):IsPart (partValue ot) (ot.map (·.1)):=by
 cases ot with
 |none=>exact .none
 |some p=>exact .int _ _
theorem slice_sound(S:SE C n r){v:Expr}{lo hi st:Option Expr}{p1 pos:Pos}{d:D}(p:Pre C n k A env Y l s)(h:stepE C.fns C.glob r k env.scope l (.Subscript v (.Slice lo hi st p1) pos)=some d)(q:Kq C Y d s Q):wpAny C.M A (eval (.Subscript v (.Slice lo hi st p1) pos) env) Q NE s:=by
 have h:((r.E k env.scope l v).bind fun d=>(partD r k env.scope l lo).bind fun lo=>(partD r k env.scope l hi).bind fun hi=>(partD r k env.scope l st).bind fun st=>match d.flat with
   | .list ds=>if st≠some 0∧ds.length≤lim then some (.list (pick ds lo hi st)) else none
   | .str x=>if st=none∧x.length≤lim then some (.str (Txt.slice x lo hi)) else none
   |_=>none)=some d:=h
 obtain⟨x,h1,h⟩:=zbs.mp h
 obtain⟨lo',h2,h⟩:=zbs.mp h
 obtain⟨hi',h3,h⟩:=zbs.mp h
 obtain⟨st',h4,h⟩:=zbs.mp h
 refine Subscript_ (S.at p h1 fun u s1 k1 p1 r1=>wpAny_Slice (part_sound S p1 h2 fun ol s2 e2 k2 p2=>part_sound S p2 h3 fun oh s3 e3 k3 p3=>part_sound S p3 h4 fun os s4 e4 k4 p4=> ?_))
 have k14:=(k2.trans k3).trans k4
 have r4:=r1.kp k14 p.hP
 have kp5:KP C s4 { s4 with heap:=s4.heap.push { cls:= .type "slice",data:= .fields #[partValue ol,partValue oh,partValue os] } }:=KP.push (tk:=s4.toks) nL
 have r5:=r4.kp kp5 p.hP
 have p5:=p4.kp kp5
 have kk:=(k1.trans k14).trans kp5
 subst e2 e3 e4
 have r5:=r5.flat
 generalize x.flat=x at h r5
 split at h
 ·rename_i ds
  split at h
  ·rename_i hc
   cases h
   exact slice_list_sound r5 (Heap.IsSliceOf.new ..) (isPart_of ol) (isPart_of oh) (isPart_of os) hc.1 hc.2 p.hP p5.lt fun v s6 k6 r6=>q v s6 (kk.trans k6) r6
  ·cases h
 ·split at h
  ·rename_i hc
   cases h
   obtain⟨hn,hl⟩:=hc
   cases os with
   |some o=>cases hn
   |none=>
    refine slice_str_sound (lo:=ol) (hi:=oh) r5 ⟨_,Heap.get?_push_size _ rfl,rfl,rfl⟩ hl fun v s6 k6 r6=>q v s6 (kk.trans k6) r6
  ·cases h
 ·cases h
theorem index_sound(S:SE C n r){v e:Expr}{pos:Pos}{x i d:D}(p:Pre C n k A env Y l s)(h1:r.E k env.scope l v=some x)(h2:r.E k env.scope l e=some i)(h3:itemD x i=some d)(q:Kq C Y d s Q):wpAny C.M A (eval (.Subscript v e pos) env) Q NE s:=
 Subscript_ (S.at p h1 fun u s1 k1 p1 r1=>S.at p1 h2 fun w s2 k2 p2 r2=>item_sound h3 (r1.kp k2 p.hP) r2 fun y s3 k3 r3=>q y s3 ((k1.trans k2).trans k3) r3)
theorem subscript_sound(S:SE C n r){v e:Expr}{pos:Pos}{d:D}(p:Pre C n k A env Y l s)(h:stepE C.fns C.glob r k env.scope l (.Subscript v e pos)=some d)(q:Kq C Y d s Q):wpAny C.M A (eval (.Subscript v e pos) env) Q NE s:=by
 by_cases hs:∃lo hi st p1,e= .Slice lo hi st p1
 ·obtain⟨lo,hi,st,p1,rfl⟩:=hs
  exact slice_sound S p h q
 ·have h:((r.E k env.scope l v).bind fun x=>(r.E k env.scope l e).bind fun y=>itemD x y)=some d:=by
   cases e <;> first|exact h|exact absurd ⟨_,_,_,_,rfl⟩ hs
  obtain⟨x,h1,h⟩:=zbs.mp h
  obtain⟨y,h2,h⟩:=zbs.mp h
  exact index_sound S p h1 h2 h q
theorem attrBase{o:Expr}{m:Str}(h:isCallE o=false):attributeBase o m env (eval o env)=eval o env:=by
 cases o <;> first|rfl|(cases h)
theorem method_sound(S:SE C n r)(a1:AOk (n+1) A){o:Expr}{m:Str}{ap cp:Pos}{args:List Expr}{d:D}(p:Pre C n k A env Y l s)(h:stepE C.fns C.glob r k env.scope l (.Call (.Attribute o m ap) args [] cp)=some d)(q:Kq C Y d s Q):wpAny C.M A (eval (.Call (.Attribute o m ap) args [] cp) env) Q NE s:=by
 have hh:(if isCallE o=true∨(ap.endLine==cp.line)=false∨args.length≥20∨args.length=0 then none else
  if m="replace" then match args with
   |[.Constant (.str y) _ _,.Constant (.str z) _ _]=>match r.E k env.scope l o with
    |some (.str x)=>if (C.fns.lookup ("_law_said":Str)).isSome=true∧x.length≤1000∧z.length≤14∧(y==z)=false then some (.str (Txt.replace x y z)) else none
    |_=>none
   |_=>none
  else (r.E k env.scope l o).bind fun d=>(Ess r k env.scope l args).bind fun as=>methD d m as)=some d:=h
 clear h
 split at hh
 ·cases hh
 ·rename_i hg
  simp only[not_or,Bool.not_eq_true,Bool.not_eq_false,Nat.not_le] at hg
  obtain⟨hco,hline,hlt,hne⟩:=hg
  split at hh
  ·rename_i hm
   subst hm
   split at hh
   ·rename_i y ky py z kz pz
    split at hh
    ·rename_i x hx
     split at hh
     ·rename_i hc
      cases hh
      refine wpAny_Call_method_lateS (attrBase hco) (by rfl) hline (S.at p hx fun u s1 k1 p1 r1=> ?_)
      obtain⟨t,rfl⟩:=r1.str_inv
      refine⟨"str","str.replace",PySem.F.plainAttrs_str,PySem.F.slot_str_replace,PySem.F.type_str_replace,typeIs_str _ _ _,fun a e=>(by cases e),?_⟩
      refine callWith_builtin rfl (evalArgs_plain (spliced_cons ?_))
      rw[eval_Constant]
      refine wpAny_mkText (spliced_cons ?_)
      rw[eval_Constant]
      refine wpAny_mkText (spliced_nil ?_)
      have hpos:=p1.gr.toks hc.1
      refine toksOf (SC.replaceW (Nat.pos_iff_ne_zero.mp hpos) (by show s1.toks+1≠0;omega) (by show s1.toks≠s1.toks+1;omega) hc.2.2.2 kO hc.2.2.1 fun t' k' ht=> ?_)
      exact q _ _ (k1.trans (KP.tok (znT (show s1.toks≤s1.toks+1+1 by omega) ht))) (.str _ _)
     ·cases hh
    ·cases hh
   ·cases hh
  ·rename_i hm
   obtain⟨x,h1,hh1⟩:=zbs.mp hh
   clear hh
   obtain⟨as,h2,h⟩:=zbs.mp hh1
   clear hh1
   have hst:=Ess_plain h2
   have hplain:=plain_any (pos:=cp) (env:=env) hst
   have hmeth:∃(T:String),PlainAttrs T∧Slot T m (methId m)∧typeOf (.builtin (methId m))=pure (.type "method_descriptor")∧((T="str"∧∃y,x= .str y)∨(T="list"∧∃y,x= .list y)):=by
    unfold methD at h
    unfold methId
    split at h
    ·rename_i e;subst e
     refine⟨"str",PySem.F.plainAttrs_str,?_,?_,.inl ⟨rfl,?_⟩⟩
     ·rw[if_pos rfl];exact PySem.F.slot_str_find
     ·rw[if_pos rfl];exact PySem.F.type_str_find
     ·split at h
      ·exact⟨_,rfl⟩
      ·exact⟨_,rfl⟩
      ·cases h
    ·rename_i e;rw[if_neg e]
     split at h
     ·rename_i e;subst e
      refine⟨"str",PySem.F.plainAttrs_str,?_,?_,.inl ⟨rfl,?_⟩⟩
      ·rw[if_pos rfl];exact PySem.F.slot_str_split
      ·rw[if_pos rfl];exact PySem.F.type_str_split
      ·split at h
       ·exact⟨_,rfl⟩
       ·cases h
     ·rename_i e;rw[if_neg e]
      split at h
      ·rename_i e;subst e
       refine⟨"str",PySem.F.plainAttrs_str,?_,?_,.inl ⟨rfl,?_⟩⟩
       ·rw[if_pos rfl];exact PySem.F.slot_str_join
       ·rw[if_pos rfl];exact PySem.F.type_str_join
       ·split at h
        ·exact⟨_,rfl⟩
        ·cases h
      ·rename_i e;rw[if_neg e]
       split at h
       ·rename_i e;subst e
        refine⟨"list",PySem.F.plainAttrs_list,PySem.F.slot_list_index,PySem.F.type_list_index,.inr ⟨rfl,?_⟩⟩
        split at h
        ·exact⟨_,rfl⟩
        ·cases h
       ·cases h
   obtain⟨T,hT1,hT2,hT3,hT4⟩:=hmeth
   have hfew:((backTo cp (starEach args env)).all (fun x=> !x.1)&&(backToKw cp (keywordEach [] env)).all (fun x=>x.1.isSome)&&decide (args.length+([]:List Keyword).length+(if ([]:List Keyword).isEmpty then 0 else 1)<30))=true:=by
    have e1:(backTo cp (starEach args env)).all (fun x=> !x.1)=true:=by
     rw[List.all_eq_true]
     intro y hy
     have:=List.any_eq_false.mp hplain y hy
     simpa using this
    rw[e1]
    simp[backToKw,keywordEach]
    omega
   refine wpAny_Call_method_lateS (attrBase hco) hfew hline (S.at p h1 fun u s1 k1 p1 r1=> ?_)
   refine⟨T,methId m,hT1,hT2,hT3,?_,?_,?_⟩
   ·rcases hT4 with ⟨rfl,y,rfl⟩|⟨rfl,y,rfl⟩
    ·obtain⟨t,rfl⟩:=r1.str_inv
     exact typeIs_str _ _ _
    ·obtain⟨a,vs,mm,rfl,ho,_⟩:=r1.list_inv
     exact⟨_,(view_get ho).1,rfl⟩
   ·intro a e
    subst e
    rcases hT4 with ⟨rfl,y,rfl⟩|⟨rfl,y,rfl⟩
    ·obtain⟨t,e⟩:=r1.str_inv;cases e
    ·obtain⟨a,vs,mm,e,ho,_⟩:=r1.list_inv
     cases e
     exact⟨_,(view_get ho).1,rfl⟩
   ·refine callWith_builtin hplain ?_
    match args,hne,h2,hst with
    |e::es,_,h2,hst=>
     rw[starEach_plain (hst e zmS)]
     refine evalArgs_plain ?_
     have:=args_sound S (pos:=cp) (Q:=fun vs s'=>wpAny C.M A (call (.builtin (methId m)) (u::vs)) Q NE s') p1 h2 fun vs s2 k2 p2 r2=> ?_
     ·rw[starEach_plain (hst e zmS)] at this
      exact this
     ·exact meth_call a1 p2.hP p2.lt h (r1.kp k2 p.hP) r2 fun v s3 k3 r3=>q v s3 ((k1.trans k2).trans k3) r3
end
section
variable{C:Cx}{n:Nat}{r:Ev}{k:Bool}{A:Around}{env:Env}{Y Y' W J:List Addr}{OL N:List (Str×Addr)}{l l':Loc}{s s' s'' s1 s2:Shared}{Z Z':Addr→Prop}{Q:Value→Shared→Prop}
theorem builtin_names{f:Str}{as:List D}{d:D}(h:builtinD f as=some d):f="len"∨f="sum"∨f="range"∨f="sorted"∨f="max"∨f="str"∨f="int"∨f="list":=by
 unfold builtinD at h
 repeat (first|(split at h;rename_i e;first|exact .inl e|exact .inr (.inl e)|exact .inr (.inr (.inl e))|exact .inr (.inr (.inr (.inl e)))|exact .inr (.inr (.inr (.inr (.inl e))))|exact .inr (.inr (.inr (.inr (.inr (.inl e)))))|exact .inr (.inr (.inr (.inr (.inr (.inr (.inl e))))))|exact .inr (.inr (.inr (.inr (.inr (.inr (.inr e))))))|skip;rename_i e)|cases h)
theorem boot_len':bootBuiltins "len"=some (.builtin "len"):=by decide+kernel
theorem boot_sum':bootBuiltins "sum"=some (.builtin "sum"):=by decide+kernel
theorem boot_range':bootBuiltins "range"=some (.type "range"):=by decide+kernel
theorem boot_sorted':bootBuiltins "sorted"=some (.builtin "sorted"):=by decide+kernel
theorem boot_max':bootBuiltins "max"=some (.builtin "max"):=by decide+kernel
theorem boot_str':bootBuiltins "str"=some (.type "str"):=by decide+kernel
theorem boot_int':bootBuiltins "int"=some (.type "int"):=by decide+kernel
theorem boot_list':bootBuiltins "list"=some (.type "list"):=by decide+kernel
theorem boot_isinstance':bootBuiltins "isinstance"=some (.builtin "isinstance"):=by decide+kernel
theorem builtin_boot{f:Str}{as:List D}{d:D}(h:builtinD f as=some d):f∈usedBuiltins∧bootBuiltins f=some (calleeB f)∧(f==("__debug__":Str))=false∧as≠[]∧((∃id,calleeB f= .builtin id)∨∃T,calleeB f= .type T):=by
 have has:as≠[]:=by
  intro e;subst e
  have e0:builtinD f []=none:=by
   unfold builtinD
   repeat (split;· rfl)
   rfl
  rw[e0] at h;cases h
 rcases builtin_names h with rfl|rfl|rfl|rfl|rfl|rfl|rfl|rfl
 ·exact⟨by decide,by rw[boot_len'];rfl,by decide,has,.inl ⟨_,rfl⟩⟩
 ·exact⟨by decide,by rw[boot_sum'];rfl,by decide,has,.inl ⟨_,rfl⟩⟩
 ·exact⟨by decide,by rw[boot_range'];rfl,by decide,has,.inr ⟨_,rfl⟩⟩
 ·exact⟨by decide,by rw[boot_sorted'];rfl,by decide,has,.inl ⟨_,rfl⟩⟩
 ·exact⟨by decide,by rw[boot_max'];rfl,by decide,has,.inl ⟨_,rfl⟩⟩
 ·exact⟨by decide,by rw[boot_str'];rfl,by decide,has,.inr ⟨_,rfl⟩⟩
 ·exact⟨by decide,by rw[boot_int'];rfl,by decide,has,.inr ⟨_,rfl⟩⟩
 ·exact⟨by decide,by rw[boot_list'];rfl,by decide,has,.inr ⟨_,rfl⟩⟩
theorem builtin_sound(S:SE C n r)(a1:AOk (n+1) A){f:Str}{np pos:Pos}{args:List Expr}{as:List D}{d:D}(p:Pre C n k A env Y l s)(hk:env.kindOf f=some .globalImplicit)(h1:Ess r k env.scope l args=some as)(h2:builtinD f as=some d)(q:Kq C Y d s Q):wpAny C.M A (eval (.Call (.Name f np) args [] pos) env) Q NE s:=by
 obtain⟨hu,hb,hd,hne,hkind⟩:=builtin_boot h2
 have hst:=Ess_plain h1
 have hplain:=plain_any (pos:=pos) (env:=env) hst
 refine Call_Name rfl (E_builtin p hk hu hb hd ?_)
 have main:wpAny C.M A (spliced (backTo pos (starEach args env))) (fun vs s'=>wpAny C.M A (call (calleeB f) vs) Q NE s') NE s:=
  args_sound S p h1 fun vs s2 k2 p2 r2=>builtin_call p2.a.handled p2.hP p2.lt h2 r2 fun v s3 k3 r3=>q v s3 (k2.trans k3) r3
 match args,h1,hst,main,hplain with
 |[],h1,_,_,_=>cases h1;exact absurd rfl hne
 |e::es,h1,hst,main,hplain=>
  rw[starEach_plain (hst e zmS)] at main hplain ⊢
  rcases hkind with ⟨id,e1⟩|⟨T,e1⟩
  ·rw[e1] at main ⊢
   exact callWith_builtin hplain (evalArgs_plain main)
  ·rw[e1] at main ⊢
   exact PyProof.Rows.callWith_type hplain (evalArgs_plain main)
theorem isinst_sound(S:SE C n r){e:Expr}{b:Str}{np bp pos:Pos}{x:List D}(p:Pre C n k A env Y l s)(hk:env.kindOf "isinstance"=some .globalImplicit)(hb:b="list")(hkb:env.kindOf b=some .globalImplicit)(hst:isStarred e=false)(h1:r.E k env.scope l e=some (.list x))(q:Kq C Y (.bool true) s Q):
  wpAny C.M A (eval (.Call (.Name "isinstance" np) [e,.Name b bp] [] pos) env) Q NE s:=by
 subst hb
 refine Call_Name rfl (E_builtin (v:= .builtin "isinstance") p hk kD boot_isinstance' kD ?_)
 rw[starEach_plain hst]
 refine callWith_builtin (by rfl) (evalArgs_plain (spliced_cons (S.at p h1 fun v s1 k1 p1 r1=>spliced_cons (E_builtin (v:= .type "list") p1 hkb kD boot_list' kD (spliced_nil ?_)))))
 obtain⟨a,vs,m,rfl,ho,_⟩:=r1.list_inv
 have hT:s1.TypeIs (.ref a) "list":=⟨_,(view_get ho).1,rfl⟩
 exact PyProof.Rows.call_isinstance_yes hT (by rfl) AutoSeq1.sub_list_list (q _ _ k1 (.bool true))
theorem fn_sound{fns:List (Str×Fn)}(S:Snd C n r){f:Str}{np pos:Pos}{args:List Expr}{as:List D}{d:D}(p:Pre C (n+1) k A env Y l s)(hk:env.kindOf f=some .globalImplicit)(hdb:(f==("__debug__":Str))=false)(h1:Ess r k env.scope l args=some as)(h2:(callD C.fns r f as).bind retOf=some d)(q:Kq C Y d s Q):wpAny C.M A (eval (.Call (.Name f np) args [] pos) env) Q NE s:=by
 obtain⟨x,g2,h3⟩:=zbs.mp h2
 obtain⟨fn,hf,g3⟩:=zbs.mp g2
 obtain⟨l0,hb,g4⟩:=zbs.mp g3
 clear h2 g2 g3
 obtain⟨fl,l'⟩:=x
 have hfl:fl= .ret d:=by
  cases fl <;> first|(cases h3;rfl)|(cases h3)
 subst hfl
 obtain⟨a,o,pm,code,doc,hm,ho,hd,hc⟩:=p.bs.fn f fn hf
 have hst:=Ess_plain h1
 have hplain:=plain_any (pos:=pos) (env:=env) hst
 have p0:=p.mono (Nat.le_succ n)
 refine Call_Name rfl (E_global p hk hm hdb ?_)
 have main:wpAny C.M A (spliced (backTo pos (starEach args env))) (fun vs s'=>(s'.heap.get? a=some o∧o.data= .func (docDef f fn.params fn.body fn.scope pm code doc))∧wpAny C.M A (call (.ref a) vs) Q NE s') NE s:=
  args_sound S.E p0 h1 fun vs s2 k2 p2 r2=>⟨⟨p2.gr.keep _ _ ho,hd⟩,call_sound S.S hf hm p.bs p2.gr p2.hP p2.hY p2.hYs p.a.room hb g4 r2 fun v s3 k3 r3=>q v s3 (k2.trans k3) r3⟩
 match args,h1,hst,main,hplain with
 |[],h1,_,main,_=>
  cases h1
  exact callWith_function (o:=o) (fd:=docDef f fn.params fn.body fn.scope pm code doc) (evalArgs_nil3 ⟨⟨p.gr.keep _ _ ho,hd⟩,call_sound S.S hf hm p.bs p.gr p.hP p.hY p.hYs p.a.room hb g4 .nil fun v s3 k3 r3=>q v s3 k3 r3⟩)
 |e::es,h1,hst,main,hplain=>
  rw[starEach_plain (hst e zmS)] at main hplain ⊢
  exact callWith_function (o:=o) (fd:=docDef f fn.params fn.body fn.scope pm code doc) (evalArgs_plain main)
end
section
variable{C:Cx}{n:Nat}{r:Ev}{k:Bool}{A:Around}{env:Env}{Y Y' W J:List Addr}{OL N:List (Str×Addr)}{l l':Loc}{s s' s'' s1 s2:Shared}{Z Z':Addr→Prop}{Q:Value→Shared→Prop}
theorem stored_rel{H:HV}{ks:List Str}{vs:List Value}{ds:List D}{x:Str}{v:Value}{d:D}(h1:ks.length=vs.length)(rs:Rs C.prog C.w H vs ds)(rv:R C.prog C.w H v d):
  ∃(ks':List Str) (vs':List Value) (ds':List D),stored (ks.zip vs) x v=ks'.zip vs'∧storedS (ks.zip ds) x d=ks'.zip ds'∧ks'.length=vs'.length∧Rs C.prog C.w H vs' ds':=by
 have hds:ks.length=ds.length:=h1.trans rs.length
 unfold stored storedS
 rw[zip_any x ks vs h1,zip_lookup x ks ds hds]
 by_cases hm:x∈ks
 ·simp only[hm,decide_true,if_true]
  rw[updL_zip x v ks vs h1,updL_zip x d ks ds hds]
  exact⟨ks,_,_,rfl,rfl,updL_length x v ks vs h1,Rs.upd rv h1 rs⟩
 ·simp only[hm,decide_false,Bool.false_eq_true,if_false]
  exact⟨ks++[x],vs++[v],ds++[d],by rw[List.zip_append h1];rfl,by rw[List.zip_append hds];rfl,by simp[h1],Rs.append rs (.cons rv .nil)⟩
theorem merged_rel{H:HV}:∀(kvs:List (Str×Value)) (dvs:List D) (ks:List Str) (vs:List Value) (ds:List D) (m:List (Str×D)),ks.length=vs.length→Rs C.prog C.w H vs ds→Rs C.prog C.w H (kvs.map (·.2)) dvs→
  dictS? (ks.zip ds) ((kvs.zip dvs).map fun p=> .tup [.str p.1.1,p.2])=some m→kvs.length=dvs.length→∃(ks':List Str) (vs':List Value) (ds':List D),merged (ks.zip vs) kvs=ks'.zip vs'∧m=ks'.zip ds'∧ks'.length=vs'.length∧Rs C.prog C.w H vs' ds'
 |[],[],ks,vs,ds,m,h1,rs,_,h,_=>by
  cases h
  exact⟨ks,vs,ds,rfl,rfl,h1,rs⟩
 |(x,v)::kvs,d::dvs,ks,vs,ds,m,h1,rs,.cons rv rvs,h,hl=>by
  obtain⟨ks',vs',ds',e1,e2,e3,e4⟩:=stored_rel (x:=x) h1 rs rv
  have h:dictS? (storedS (ks.zip ds) x d) ((kvs.zip dvs).map fun p=> .tup [.str p.1.1,p.2])=some m:=h
  rw[e2] at h
  obtain⟨k2,v2,d2,g1,g2,g3,g4⟩:=merged_rel kvs dvs ks' vs' ds' m e3 e4 rvs h (by simpa using hl)
  refine⟨k2,v2,d2,?_,g2,g3,g4⟩
  rw[←g1,←e1];rfl
abbrev pairOf(env:Env)(pos:Pos)(k v:Expr):Sem Value×Sem Value:=(eval k env,do let x←eval v env;standAt pos;pure x)
theorem dict_pairs_shape:∀{ks:List (Option Expr)} {vs:List Expr} {kd:List D} {sc:Scope},Eoss r k sc l ks=some kd→∃kes:List Expr,ks=kes.map some∧kes.length=kd.length
 |[],_,kd,sc,h=>by cases h;exact⟨[],rfl,rfl⟩
 |none::_,_,kd,sc,h=>by cases h
 |some e::ks,vs,kd,sc,h=>by
  obtain⟨d,h1,h2⟩:=zbs.mp (show (r.E k sc l e).bind (fun d=>(Eoss r k sc l ks).bind fun ds=>some (d::ds))=some kd from h)
  obtain⟨ds,h3,h4⟩:=zbs.mp h2
  cases h4
  obtain⟨kes,h5,h6⟩:=dict_pairs_shape (vs:=vs) h3
  exact⟨e::kes,by rw[h5];rfl,by simp[h6]⟩
theorem shape_eq{pos:Pos}:∀(kes vs:List Expr),kes.length=vs.length→(evalEachOpt (kes.map some) env).zip ((evalEach vs env).map fun v=>do let x←v;standAt pos;pure x)=((kes.zip vs).map fun p=>pairOf env pos p.1 p.2).map fun p=>(some p.1,p.2)
 |[],[],_=>rfl
 |e::kes,v::vs,h=>by
  have:=shape_eq (pos:=pos) kes vs (by simpa using h)
  simp only[List.map_cons,evalEachOpt,evalEach,List.zip_cons_cons,this]
  rfl
theorem pairs_sound(S:SE C n r){pos:Pos}{DD:Addr}:∀(kes vs:List Expr) (kd vd:List D) (s:Shared) (m:List (Str×D)) (acc:List (Str×D)) (R:List (Value×Value)→Shared→Prop),Pre C n k A env Y l s→Eoss r k env.scope l (kes.map some)=some kd→Ess r k env.scope l vs=some vd→kd.length=vd.length→dictS? acc ((kd.zip vd).map fun p=> .tup [p.1,p.2])=some m→
  (∀(kvs:List (Str×Value)) (ps:List (Value×Value)) s',KP C s s'→Pre C n k A env Y l s'→Carries (strKind C.prog C.w) ps kvs→RDs C s'.heap Y (kvs.map (·.2)) vd→kvs.length=vd.length→dictS? acc ((kvs.zip vd).map fun p=> .tup [.str p.1.1,p.2])=some m→R ps s')→
  wpAny C.M A (evalPairs ((kes.zip vs).map fun p=>pairOf env pos p.1 p.2)) R NE s
 |[],vs,kd,vd,s,m,acc,R,p,h1,h2,hl,hm,q=>by
  cases h1
  match vd,hl with
  |[],_=>
   refine evalPairs_nil (q [] [] s (KP.refl s) p trivial .nil rfl ?_)
   exact hm
 |e::kes,[],kd,vd,s,m,acc,R,p,h1,h2,hl,hm,q=>by
  cases h2
  obtain⟨d,h3,h4⟩:=zbs.mp (show (r.E k env.scope l e).bind (fun d=>(Eoss r k env.scope l (kes.map some)).bind fun ds=>some (d::ds))=some kd from h1)
  obtain⟨ds,h5,h6⟩:=zbs.mp h4
  cases h6
  cases hl
 |e::kes,v::vs,kd,vd,s,m,acc,R,p,h1,h2,hl,hm,q=>by
  obtain⟨d,h3,h4⟩:=zbs.mp (show (r.E k env.scope l e).bind (fun d=>(Eoss r k env.scope l (kes.map some)).bind fun ds=>some (d::ds))=some kd from h1)
  obtain⟨ds,h5,h6⟩:=zbs.mp h4
  cases h6
  have hst:=Ess_plain h2 v zmS
  have h2':((r.E k env.scope l v).bind fun d=>(Ess r k env.scope l vs).bind fun ds=>some (d::ds))=some vd:=by
   have:=h2
   unfold Ess at this
   rw[if_neg (by rw[hst];exact Bool.false_ne_true)] at this
   exact this
  obtain⟨u,h7,h8⟩:=zbs.mp h2'
  obtain⟨us,h9,h10⟩:=zbs.mp h8
  cases h10
  rw[List.zip_cons_cons,List.map_cons]
  refine evalPairs_cons (S.at p h3 fun kv s1 k1 p1 r1=>wpAny_bind (S.at p1 h7 fun vv s2 k2 p2 r2=>wpAny_bind (wpAny_standAt (wpAny_pure ?_))))
  rw[List.zip_cons_cons,List.map_cons] at hm
  have hd:∃x,d= .str x:=by
   cases d <;> first|exact⟨_,rfl⟩|(cases hm)
  obtain⟨x,rfl⟩:=hd
  obtain⟨t,rfl⟩:=(r1.kp k2 p.hP).str_inv
  have hm':dictS? (storedS acc x u) ((ds.zip us).map fun p=> .tup [p.1,p.2])=some m:=hm
  refine pairs_sound S (DD:=DD) kes vs ds us s2 m _ _ p2 h5 h9 (by simpa using hl) hm' fun kvs ps s3 k3 p3 hc hrs hlen hd=> ?_
  refine q ((x,vv)::kvs) ((.str x t,vv)::ps) s3 ((k1.trans k2).trans k3) p3 ⟨strKind_is _ _ x t,rfl,hc⟩ (.cons (r2.kp k3 p.hP) hrs) (by simp[hlen]) ?_
  exact hd
theorem dict_sound(S:SE C n r){ks:List (Option Expr)}{vs:List Expr}{pos:Pos}{d:D}(p:Pre C n k A env Y l s)(h:stepE C.fns C.glob r k env.scope l (.Dict ks vs pos)=some d)(q:Kq C Y d s Q):wpAny C.M A (eval (.Dict ks vs pos) env) Q NE s:=by
 have hh:((Eoss r k env.scope l ks).bind fun kd=>(Ess r k env.scope l vs).bind fun vd=>if 1≤kd.length∧kd.length≤15∧kd.length=vd.length then (dictS? [] ((kd.zip vd).map fun p=> .tup [p.1,p.2])).map .dictS else none)=some d:=h
 clear h
 obtain⟨kd,h1,g1⟩:=zbs.mp hh
 obtain⟨vd,h2,g2⟩:=zbs.mp g1
 clear hh g1
 split at g2
 ·rename_i hc
  obtain⟨c1,c2,c3⟩:=hc
  obtain⟨m,hm,rfl⟩:=Option.map_eq_some_iff.mp g2
  obtain⟨kes,rfl,hkl⟩:=dict_pairs_shape (vs:=vs) h1
  have hvl:=Ess_len h2
  have hlen:kes.length=vs.length:=by omega
  refine wpAny_Dict_pairs (knd:=strKind C.prog C.w) (pairs:=(kes.zip vs).map fun p=>pairOf env pos p.1 p.2) (shape_eq kes vs hlen) (fun e=> ?_) (by simp;omega) ?_
  ·have:=congrArg List.length e
   rw[List.length_map,List.length_zip,List.length_nil] at this
   omega
  ·have kp0:KP C s { s with heap:=s.heap.push { cls:= .type "dict",data:= .dict #[] } }:=KP.push (tk:=s.toks) nL
   have hD0:(s.heap.push { cls:= .type "dict",data:= .dict #[] }).get? s.heap.objs.size=some { cls:= .type "dict",data:= .dict #[] }:=Heap.get?_push_size _ rfl
   have hDn:s.heap.get? s.heap.objs.size=none:=newAddr _
   have hDP:s.heap.objs.size≠C.P:=fun e=>by obtain⟨o,ho⟩:=p.hYs C.P p.hP;rw[←e,hDn] at ho;cases ho
   have hDY:s.heap.objs.size∉Y:=fun hm=>Nat.lt_irrefl _ (p.lt _ hm)
   have p0:Pre C n k A env (s.heap.objs.size::Y) l { s with heap:=s.heap.push { cls:= .type "dict",data:= .dict #[] } }:=p.more (tk:=s.toks) hDn nL (fun b o e=>zpO _ e) ⟨_,hD0⟩
   have own0:Own C [s.heap.objs.size] (s.heap.push { cls:= .type "dict",data:= .dict #[] }):=Own.fresh p.gr.tab (fun a ha=>by simp at ha;subst ha;exact hDP) (fun b o e=>zpO _ e) (fun a ha=>by simp at ha;subst ha;exact hDn) fun a ha=>by simp at ha;subst ha;exact⟨_,hD0⟩
   refine pairs_sound S (DD:=s.heap.objs.size) kes vs kd vd _ m [] _ p0 h1 h2 c3 hm fun kvs ps s1 k1 p1 hcar hrs hl hd=>⟨kvs,hcar,?_,fun h' hD' hs'=> ?_⟩
   ·obtain⟨od,hod,hodd⟩:=Heap.dictOf_iff.mp (Heap.DictOf.new (knd:=strKind C.prog C.w) s.heap)
    exact Heap.dictOf_iff.mpr ⟨od,k1.heap hDP hod,hodd⟩
   ·obtain⟨ks',vs',ds',e1,e2,e3,e4⟩:=merged_rel (H:=view s1.heap (s.heap.objs.size::Y)) kvs vd [] [] [] m rfl .nil hrs hd hl
    obtain⟨o',ho',hod'⟩:=Heap.dictOf_iff.mp hD'
    have e1':merged ([]:List (Str×Value)) kvs=ks'.zip vs':=e1
    rw[e1'] at hod'
    have hcode:¬CodeAt C s1.heap s.heap.objs.size:=(own0.kw (p.kp kp0).gr.tab (KP.kw k1 (Z:=fun _=>False))).code _ (by simp)
    have kk:KP C s { s1 with heap:=h' }:=(kp0.trans k1).newOff p.gr.tab hDn hcode hs'
    have kk2:KP C s { s1 with heap:=h',toks:=s1.toks+ps.length }:=kk.trans (KP.tok (Nat.le_add_right _ _))
    subst e2
    refine q _ _ kk2 (.dictS (view_of ho' hDY) hod' e3 (Rs.mono (fun a o e=> ?_) e4) fun e=> ?_)
    ·obtain⟨e,nn⟩:=view_get e
     refine view_of ?_ fun hm=>nn (zmC _ hm)
     show h'.get? a=some o
     rw[hs'.2 a fun e'=>nn (by simp[e'])];exact e
    ·obtain⟨o,ho⟩:=Option.isSome_iff_exists.mp p.bs.sys
     have:=p.gr.keep _ o ho
     rw[←e,hDn] at this;cases this
 ·cases g2
theorem stepE_call(fns:List (Str×Fn))(glob:List (Str×D))(r:Ev)(k:Bool)(sc:Scope)(l:Loc)(f:Str)(np pos:Pos)(args:List Expr):stepE fns glob r k sc l (.Call (.Name f np) args [] pos)=(if sc.names.lookup f≠some .globalImplicit∨(f==("__debug__":Str))=true then none else
  if f="reduce" then match args with
   |[g,s]=>if okLam k sc g=false∨isStarred s=true then none else (r.E k sc l s).bind fun d=>match d with
    | .list (a::ds)=>foldD r l g a ds
    |_=>none
   |[g,s,i]=>if okLam k sc g=false∨isStarred s=true∨isStarred i=true then none else (r.E k sc l s).bind fun d=>(r.E k sc l i).bind fun a=>match d,a with
    | .list ds,.list x=>foldD r l g (.list x) ds
    | .list ds,.int x=>foldD r l g (.int x) ds
    |_,_=>none
   |_=>none
  else if f="isinstance" then match args with
   |[a,.Name b _]=>if b="list"∧sc.names.lookup b=some .globalImplicit∧isStarred a=false then (match r.E k sc l a with
    |some (.list _)=>some (.bool true)
    |_=>none) else none
   |_=>none
  else if (fns.lookup f).isSome then (Ess r k sc l args).bind fun as=>(callD fns r f as).bind retOf
  else (Ess r k sc l args).bind fun as=>builtinD f as):=rfl
theorem call_sound'{fns:List (Str×Fn)}(S:Snd C n r){f:Str}{np pos:Pos}{args:List Expr}{d:D}(p:Pre C (n+1) k A env Y l s)(h:stepE C.fns C.glob r k env.scope l (.Call (.Name f np) args [] pos)=some d)(q:Kq C Y d s Q):wpAny C.M A (eval (.Call (.Name f np) args [] pos) env) Q NE s:=by
 have p0:=p.mono (Nat.le_succ n)
 rw[stepE_call] at h
 split at h
 ·cases h
 ·rename_i hg
  simp only[not_or,Decidable.not_not,Bool.not_eq_true] at hg
  obtain⟨hk,hdb⟩:=hg
  split at h
  ·rename_i hf
   subst hf
   split at h
   ·rename_i g e
    split at h
    ·cases h
    ·rename_i hc
     simp only[not_or,Bool.not_eq_true,Bool.not_eq_false] at hc
     obtain⟨x,h1,g2⟩:=zbs.mp h
     split at g2
     ·exact reduce2_sound S.E p hc.1 hk hc.2 h1 g2 q
     ·cases g2
   ·rename_i g e i
    split at h
    ·cases h
    ·rename_i hc
     simp only[not_or,Bool.not_eq_true,Bool.not_eq_false] at hc
     obtain⟨x,h1,g2⟩:=zbs.mp h
     obtain⟨y,h2,g3⟩:=zbs.mp g2
     split at g3
     ·exact reduce3_sound S.E p hc.1 hk hc.2.1 hc.2.2 h1 h2 (.inl ⟨_,rfl⟩) g3 q
     ·exact reduce3_sound S.E p hc.1 hk hc.2.1 hc.2.2 h1 h2 (.inr ⟨_,rfl⟩) g3 q
     ·cases g3
   ·cases h
  ·split at h
   ·rename_i hf
    subst hf
    split at h
    ·rename_i e b bp
     split at h
     ·rename_i hb
      split at h
      ·rename_i x hx
       cases h
       exact isinst_sound S.E p0 hk hb.1 hb.2.1 hb.2.2 hx q
      ·cases h
     ·cases h
    ·cases h
   ·split at h
    ·obtain⟨as,h1,g2⟩:=zbs.mp h
     exact fn_sound (fns:=C.fns) S p hk hdb h1 g2 q
    ·obtain⟨as,h1,g2⟩:=zbs.mp h
     exact builtin_sound S.E p.a p0 hk h1 g2 q
end
section
variable{C:Cx}{n:Nat}{r:Ev}{k:Bool}{A:Around}{env:Env}{Y Y' W J:List Addr}{OL N:List (Str×Addr)}{l l':Loc}{s s' s'' s1 s2:Shared}{Z Z':Addr→Prop}{Q:Value→Shared→Prop}
theorem fresh_push{vs:List Value}{ds:List D}(p:Pre C n k A env Y l s)(rs:RDs C s.heap Y vs ds):
  KP C s { s with heap:=s.heap.push (lstO vs 0) }∧s.heap.get? s.heap.objs.size=none∧(s.heap.push (lstO vs 0)).get? s.heap.objs.size=some (lstO vs 0)∧¬CodeAt C (s.heap.push (lstO vs 0)) s.heap.objs.size∧RDs C (s.heap.push (lstO vs 0)) (s.heap.objs.size::Y) vs ds:=by
 have kp:KP C s { s with heap:=s.heap.push (lstO vs 0) }:=KP.push (tk:=s.toks) nL
 have hn:s.heap.get? s.heap.objs.size=none:=newAddr _
 have ho:(s.heap.push (lstO vs 0)).get? s.heap.objs.size=some (lstO vs 0):=Heap.get?_push_size _ rfl
 have own:Own C [s.heap.objs.size] (s.heap.push (lstO vs 0)):=Own.fresh p.gr.tab (fun a ha e=>by
   simp at ha;subst ha
   obtain⟨o,ho⟩:=p.hYs C.P p.hP
   rw[←e,hn] at ho;cases ho) (fun b o e=>zpO _ e) (fun a ha=>by simp at ha;subst ha;exact hn) fun a ha=>by simp at ha;subst ha;exact⟨_,ho⟩
 exact⟨kp,hn,ho,own.code _ (by simp),RDs.moreL (J:=[s.heap.objs.size]) kp p.hP (fun a ha=>by simp at ha;subst ha;exact hn) (fun a ha=>by
  rcases zcon.mp ha with e|h
  ·exact .inl (by simp[e])
  ·exact .inr h) rs⟩
theorem SF_step(S:SE C n r):SF C (n+1) ⟨stepE C.fns C.glob r,fun k=>stepS r k n⟩:=by
 intro k A env Y l e ds s Q p hf h q
 have p0:=p.mono (Nat.le_succ n)
 match e,hf with
 | .List es pos,_=>
   obtain⟨ds',h1,g⟩:=zbs.mp (show (Ess r k env.scope l es).bind (fun ds=>if ds.length≤lim then some (D.list ds) else none)=some (.list ds) from h)
   split at g
   ·rename_i hl;cases g
    refine wpAny_List (args_sound S p0 h1 fun vs s₁ k₁ p₁ r₁=> ?_)
    have hlen:=r₁.length
    obtain⟨kp,hn,ho,hc,rs⟩:=fresh_push p₁ r₁
    exact⟨by rw[hlen];exact sz hl,q _ vs _ (k₁.trans kp) (newIn k₁.kw p.gr.tab (Z:=fun _=>False) hn) ho hc rs⟩
   ·cases g
 | .BinOp a .Add b pos,_=>
   obtain⟨x,h1,g1⟩:=zbs.mp (show ((r.E k env.scope l a).bind fun x=>(r.E k env.scope l b).bind fun y=>binD .Add x y)=some (.list ds) from h)
   obtain⟨y,h2,g2⟩:=zbs.mp g1
   have hxy:∃xs ys,x= .list xs∧y= .list ys∧xs.length+ys.length≤lim∧ds=xs++ys:=by
    unfold binD at g2
    split at g2 <;> first|(rename_i e;cases e;done)|(cases g2;done)|skip
    all_goals (first|(split at g2;rename_i hl;cases g2;exact⟨_,_,rfl,rfl,hl,rfl⟩;cases g2)|(split at g2;cases g2;cases g2)|skip)
   obtain⟨xs,ys,rfl,rfl,hl,rfl⟩:=hxy
   refine E_BinOp (S.at p0 h1 fun v s1 k1 p1 r1=>S.at p1 h2 fun u s2 k2 p2 r2=> ?_)
   obtain⟨a1,vs,n1,rfl,o1,t1⟩:=(r1.kp k2 p.hP).list_inv
   obtain⟨a2,ws,n2,rfl,o2,t2⟩:=r2.list_inv
   have l1:=t1.length
   have l2:=t2.length
   obtain⟨kp,hn,ho,hc,rs⟩:=fresh_push p2 (t1.append t2)
   have hk:=newIn (k1.trans k2).kw p.gr.tab (Z:=fun _=>False) hn
   refine P.add_list (view_get o1).1 (view_get o2).1 ?_ (by simp only[List.size_toArray];exact sz kO)
   have e:(vs.toArray++ws.toArray)=(vs++ws).toArray:=by simp
   rw[e]
   exact q _ (vs++ws) _ ((k1.trans k2).trans kp) hk ho hc rs
theorem SE_step{fns:List (Str×Fn)}(bs:Base C)(S:Snd C n r):SE C (n+1) ⟨stepE C.fns C.glob r,fun k=>stepS r k n⟩:=by
 intro k A env Y l e d s Q a eo gr hP hY hYs fm hc loc h q
 have p:Pre C (n+1) k A env Y l s:=⟨bs,a,eo,gr,hP,hY,hYs,fm,hc,loc⟩
 have p0:=p.mono (Nat.le_succ n)
 have q:Kq C Y d s Q:=q
 have h:stepE C.fns C.glob r k env.scope l e=some d:=h
 match e,h with
 | .Constant c kd pos,h=>
   match c,h with
   | .none,h=>cases h;exact E_none q
   | .bool b,h=>cases h;exact E_bool q
   | .int i,h=>cases h;exact E_int q
   | .str x,h=>cases h;exact E_str q
 | .Name x pos,h=>exact name_sound p0 h q
 | .BinOp a op b pos,h=>exact binop_sound S.E p0 h q
 | .UnaryOp .USub (.Constant (.int i) kd p1) pos,h=>cases h;exact unary_sound q
 | .BoolOp .And [a,b] pos,h=>exact and_sound S.E p0 h q
 | .IfExp t a b pos,h=>exact ifexp_sound S.E p.a p0 h q
 | .List es pos,h=>exact list_sound S.E p0 h q
 | .Tuple es kd pos,h=>exact tuple_sound S.E p0 h q
 | .ListComp elt gens csc pos,h=>exact listcomp_sound S.E p.a p0 h q
 | .DictComp ke ve gens csc pos,h=>exact dictcomp_sound S.E p.a p0 h q
 | .Dict ks vs pos,h=>exact dict_sound S.E p0 h q
 | .Compare a [op] [b] pos,h=>exact compare_sound S.E p.a p0 h q
 | .Subscript v e pos,h=>exact subscript_sound S.E p0 h q
 | .Call (.Name f np) args [] pos,h=>exact call_sound' (fns:=C.fns) S p h q
 | .Call (.Attribute o m ap) args [] cp,h=>exact method_sound S.E p.a p0 h q
theorem snd_all(bs:Base C):∀n m,m≤n→Snd C m (ev C.fns C.glob m)
 |0,m,hm=>by
  have:m=0:=by omega
  subst this
  constructor
  ·intro k A env Y l e d s Q _ _ _ _ _ _ _ _ _ h _;cases h
  ·intro k A env Y W l e d y py s Q _ _ _ _ _ _ h _;cases h
  ·intro k A env Y l e ds s Q _ _ h _;cases h
  ·intro k A env Y OL l st f l' s Q E _ h _;cases h
 |n+1,m,hm=>by
  have ih:=snd_all bs n
  by_cases h:m≤n
  ·exact ih m h
  ·have:m=n+1:=by omega
   subst this
   have S:=ih n (Nat.le_refl n)
   exact⟨SE_step (fns:=C.fns) bs S,SU_step S.E,SF_step S.E,SS_step ih⟩
end
structure ExcK(C:Cx)(clR clP:Addr):Prop where
 mR:C.mg "error_reply"=some (.ref clR)
 mP:C.mg "error_proto"=some (.ref clP)
 ne:clR≠clP
 ty:∀(M:Model),∀c∈[clR,clP],Looks M C.g0 (isInstance (.ref c) (.type "tuple")) false∧Looks M C.g0 (isExcClass (.ref c)) true
 sub:∀(M:Model),∀c∈[clR,clP],∀c'∈[clR,clP],Looks M C.g0 (isSubtype (.ref c) (.ref c')) (decide (c=c'))
 base:∀(M:Model),∀c∈[clR,clP],Looks M C.g0 (isSubtype (.ref c) (.type "BaseException")) true
 str:∀(M:Model),∀c∈[clR,clP],Looks M C.g0 (typeLookup (.ref c) "__str__") (some (.builtin "BaseException.__str__"))
abbrev Kept(C:Cx)(h:Heap):Prop:=∀b o,C.g0.get? b=some o→h.get? b=some o
section
variable{C:Cx}{prog:Program}{w:World}{A:Around}{s:Shared}{E:Value→Shared→Prop}{clR clP:Addr}
theorem typeOf_at{M:Model}{e cl:Addr}{oe:Obj}(he:s.heap.get? e=some oe)(hc:oe.cls= .ref cl):Looks M s.heap (typeOf (.ref e)) (.ref cl):=by
 intro A Q E s' k q
 unfold typeOf
 refine wpAny_bind (wpAny_loadPart (k _ _ he) ?_)
 rw[hc]
 exact wpAny_pure q
theorem exc_matches{M:Model}(X:ExcK C clR clP)(g:Kept C s.heap){e c c':Addr}{oe:Obj}{Q:Bool→Shared→Prop}(he:s.heap.get? e=some oe)(hc:oe.cls= .ref c)(h1:c∈[clR,clP])(h2:c'∈[clR,clP])(q:Q (decide (c=c')) s):
  wpAny M A (excMatches (.ref e) (.ref c')) Q E s:=by
 have L0:=(X.ty M c' h2).1.keeps g
 have e1:=(X.ty M c' h2).2.keeps g
 have S1:=(X.sub M c h1 c' h2).keeps g
 have LT:=typeOf_at (M:=M) he hc
 obtain⟨hh,gg,d,tk,os⟩:=s
 have hk:∀b o,hh.get? b=some o→hh.get? b=some o:=fun _ _ e=>e
 unfold excMatches
 refine wpAny_bind (L0.at ?_)
 dsimp only
 rw[if_neg Bool.false_ne_true]
 cases hb:decide (c=c') <;> rw[hb] at q S1 <;> ((repeat (first|simp only[List.forIn_cons,List.forIn_nil,Bool.not_true,Bool.false_eq_true,if_false,if_true]|lk));exact q)
theorem special_str{M:Model}(X:ExcK C clR clP)(g:Kept C s.heap){e c:Addr}{oe:Obj}{Q:Option Value→Shared→Prop}(he:s.heap.get? e=some oe)(hc:oe.cls= .ref c)(h1:c∈[clR,clP])
  (h:wpAny M A (call (.builtin "BaseException.__str__") [.ref e]) (fun v=>Q (some v)) E s):wpAny M A (callSpecial? (.ref e) "__str__") Q E s:=
 wpAny_bind (wpAny_bind ((typeOf_at (M:=M) he hc).here (((X.str M c h1).keeps g).here (wpAny_holding (wpAny_bind ((Looks.of_pure (F.excStr_Exception.str.bind _)).here (wpAny_bind (wpAny_mono h (fun _ _ z=>wpAny_pure z) fun _ _ z=>z))))))))
open Builtin Builtin.BaseException in
theorem bexc_str(X:ExcK C clR clP)(g:Kept C s.heap){e c t:Addr}{oe ot:Obj}{vs:Array Value}{m:Str}{tk:Tok}{Q:Value→Shared→Prop}(he:s.heap.get? e=some oe)(hc:oe.cls= .ref c)(hd:oe.data= .fields vs)(h0:vs[0]? =some (.ref t))(h1:c∈[clR,clP])
  (ht:s.heap.get? t=some { cls:= .type "tuple",data:= .seq #[.str m tk] }) (q:Q (.str m tk) s):wpAny (model prog w) A (call (.builtin "BaseException.__str__") [.ref e]) Q E s:=by
 have hi:Looks (model prog w) s.heap (isInstance (.ref e) (.type "BaseException")) true:=(typeOf_at (M:=model prog w) he hc).andThen ((X.base (model prog w) c h1).keeps g)
 refine wpAny_call (codeAny_call_builtin F.excStr_Exception.str.plain F.entry_bexc_str (check_slot (i:="BaseException.__str__") (owner:="BaseException") (n:="__str__") (by decide+kernel) (by decide+kernel) hi (F.args_bexc_str _) ?_))
 unfold Builtin.«BaseException.__str__»
 have hb:∀{Q:Value×List Value→Shared→Prop},Q (.ref t,[.str m tk]) s→wpAny (model prog w) A.in1 (bexcArgs (.ref e)) Q (fun e s'=>E e s') s:=fun hq=>by
  unfold bexcArgs
  refine wpAny_bind (wpAny_field he hd h0 (wpAny_bind (wpAny_seqItems ht rfl ?_)))
  exact wpAny_pure hq
 repeat (first|with_reducible refine hb ?_|wp_step)
 exact q
open Builtin.Str
theorem strOf_exc(X:ExcK C clR clP)(g:Kept C s.heap)(hu:A.units<cLine){e c t:Addr}{oe:Obj}{vs:Array Value}{m:Str}{tk:Tok}{Q:Value→Shared→Prop}(he:s.heap.get? e=some oe)(hc:oe.cls= .ref c)(hd:oe.data= .fields vs)(h0:vs[0]? =some (.ref t))(h1:c∈[clR,clP])
  (ht:s.heap.get? t=some { cls:= .type "tuple",data:= .seq #[.str m tk] }) (q:Q (.str m tk) s):wpAny (model prog w) A (Builtin.Str.strOf (.ref e)) Q E s:=by
 unfold Builtin.Str.strOf
 repeat (first|with_reducible refine wpAny_cRoomFor hu ?_|with_reducible refine special_str X g he hc h1 (bexc_str (ot:={ cls:= .none }) X g he hc hd h0 h1 ht ?_)|wp_step)
 exact q
theorem call_str_exc(X:ExcK C clR clP)(g:Kept C s.heap)(hu:A.units+2<cLine){e c t tb:Addr}{m:Str}{tk:Tok}{Q:Value→Shared→Prop}(he:s.heap.get? e=some { cls:= .ref c,data:= .fields #[.ref t,.ref tb,.none,.none,.bool false,.none] })
  (ht:s.heap.get? t=some { cls:= .type "tuple",data:= .seq #[.str m tk] }) (h1:c∈[clR,clP]) (h:Q (.str m tk) s):wpAny (model prog w) A (call (.type "str") [.ref e]) Q E s:=
 callType_new F.called_str kD (F.typeCall_str_1 _) (F.newCall_str_1 _) (fun obj=>F.args_object_init_2 obj _) F.entry_str_new
  (PySem.meets_str_new (S:=fun A' R s'=>A'.units+1<cLine∧Kept C s'.heap∧s'.heap.get? e=some { cls:= .ref c,data:= .fields #[.ref t,.ref tb,.none,.none,.bool false,.none] }∧s'.heap.get? t=some { cls:= .type "tuple",data:= .seq #[.str m tk] }∧R (.ok (.ret (.str m tk))) s')
   fun prog w A' R s' hq=>strOf_exc (A:=A'.in1) X hq.2.1 hq.1 hq.2.2.1 rfl rfl rfl h1 hq.2.2.2.1 hq.2.2.2.2)
  ⟨(show A.units+1+1<cLine from hu),g,he,ht,typeIs_str _ _ _,h⟩
end
abbrev frA(l:List Env):List Addr:=l.filterMap (·.frame)
def FrL(h:Heap)(l:List Env):Prop:=∀x∈l,x.scope.kind≠.module∧∃L m,x.frame=some L∧h.Ns L m
theorem ns_slots{h h':Heap}{b:Addr}{m:Str→Option Value}(k:∀o,h.get? b=some o→∃sl,h'.get? b=some { o with slots:=sl })(n:h.Ns b m):h'.Ns b m:=by
 obtain⟨o,es,ep,ho,hd,hk⟩:=n
 obtain⟨sl,e⟩:=k o ho
 exact⟨_,es,ep,e,hd,hk⟩
theorem FrL.slots{h h':Heap}{l:List Env}(f:FrL h l)(k:∀b m,h.Ns b m→h'.Ns b m):FrL h' l:=fun x hx=>by
 obtain⟨h1,L,m,h2,h3⟩:=f x hx
 exact⟨h1,L,m,h2,k L m h3⟩
theorem FrL.fun{h:Heap}:∀{l:List Env},FrL h l→h.FunFrames { objs:= #[] } l
 |[],_=>trivial
 |x::l,f=>by
  obtain⟨h1,L,m,h2,o,es,ep,ho,hd,hk⟩:=f x zmS
  exact⟨h1,⟨L,o,h2,by simp[Heap.get?],ho,fun vs e=>by rw[hd] at e;cases e⟩,FrL.fun fun y hy=>f y (zmC _ hy)⟩
theorem FrL.mem{h:Heap}{l:List Env}(f:FrL h l){b:Addr}(hb:b∈frA l):∃m,h.Ns b m:=by
 obtain⟨x,hx,e⟩:=List.mem_filterMap.mp hb
 obtain⟨h1,L,m,h2,h3⟩:=f x hx
 rw[h2] at e;cases e
 exact⟨m,h3⟩
theorem ns_ne_fields{h:Heap}{b c:Addr}{m:Str→Option Value}{o:Obj}{vs:Array Value}(n:h.Ns b m)(ho:h.get? c=some o)(hd:o.data= .fields vs):b≠c:=by
 rintro rfl
 obtain⟨o',es,ep,ho',hd',_⟩:=n
 rw[ho] at ho';cases ho';rw[hd] at hd';cases hd'
theorem hnone{H:HV}{c:Addr}(x:¬∃o,H c=some o):H c=none:=by
 cases e:H c with
 |none=>rfl
 |some o=>exact absurd ⟨o,e⟩ x
section
variable{M:Model}{A:Around}{E:Value→Shared→Prop}{s:Shared}
theorem entry_step{env:Env}{outer:List Env}{L e:Addr}{oe:Obj}{vs:Array Value}{head:Value}{hadNext:Bool}{Q:Unit→Shared→Prop}
  (hfr:A.frames=some (env::outer)) (hl:FrL s.heap (env::outer)) (hf:env.frame=some L)
  (he:s.heap.get? e=some oe) (hd:oe.data= .fields vs) (hsz:1<vs.size)
  (h:∀h' tb,(∀b o,b∉frA (env::outer)→b≠e→s.heap.get? b=some o→h'.get? b=some o)→(∀b o,b≠e→s.heap.get? b=some o→∃sl,h'.get? b=some { o with slots:=sl })→s.heap.get? tb=none→
   h'.get? e=some (oe.mapFields (·.setIfInBounds 1 (.ref tb)))→(∃otb tvs,h'.get? tb=some otb∧otb.data= .fields tvs∧3<tvs.size∧tvs[3]? =some (rawInt L))→tb≠e→Q () { s with heap:=h' }):
  wpAny M A (do let a←frameOf env;let pl←entryPlaceOf L hadNext;let b←EntryCells.newEntry head a .none (rawInt L) .none pl;setField (.ref e) 1 b) Q E s:=by
 have hene:e∉frA (env::outer):=fun hm=>by
  obtain⟨m,hn⟩:=hl.mem hm
  exact ns_ne_fields hn he hd rfl
 refine wpAny_bind (wpAny_frameOf_fun hfr hl.fun hf fun h₁ hs₁=> ?_)
 refine wpAny_bind (wpAny_entryPlaceOf fun pl hpl=> ?_)
 unfold EntryCells.newEntry newFields
 refine wpAny_bind (wpAny_newObj_type ?_ (hpl.sizeOk5 _ _ _ _ _))
 have he₁:h₁.get? e=some oe:=(hs₁.2.1 e hene).trans he
 have he₂:=zpO (h:=h₁) { cls:= .type "traceback",dict:=none,data:= .fields ([head,.ref L,.none,rawInt L,.none]++(if pl.isEmpty then List.replicate 6 Value.none else pl)).toArray } he₁
 refine wpAny_setField he₂ hd hsz ?_
 have hTe:h₁.objs.size≠e:=Nat.ne_of_gt (Heap.lt_size he₁)
 have hd₃:=Obj.data_mapFields hd (·.setIfInBounds 1 (Value.ref h₁.objs.size))
 have he₃:=Heap.get?_update_self (Obj.mapFields (·.setIfInBounds 1 (Value.ref h₁.objs.size))) he₂ (Obj.isFreed_of_fields hd₃)
 have hT₃:=(Heap.get?_update_other (h₁.push { cls:= .type "traceback",dict:=none,data:= .fields ([head,.ref L,.none,rawInt L,.none]++(if pl.isEmpty then List.replicate 6 Value.none else pl)).toArray })
  (Obj.mapFields (·.setIfInBounds 1 (Value.ref h₁.objs.size))) (Ne.symm hTe)).trans (Heap.get?_push_size h₁ rfl)
 have keep:∀b o,b≠e→h₁.get? b=some o→
   ((h₁.push { cls:= .type "traceback",dict:=none,data:= .fields ([head,.ref L,.none,rawInt L,.none]++(if pl.isEmpty then List.replicate 6 Value.none else pl)).toArray }).update e (Obj.mapFields (·.setIfInBounds 1 (Value.ref h₁.objs.size)))).get? b=some o:=fun b o hbe hb=>by
  rw[Heap.get?_update_other _ _ (Ne.symm hbe)]
  exact zpO _ hb
 refine h _ h₁.objs.size (fun b o hbf hbe hb=>keep b o hbe ((hs₁.2.1 b hbf).trans hb)) (fun b o hbe hb=> ?_) (Heap.get?_none_of_le (by rw[hs₁.1];exact Nat.le_refl _)) he₃ ⟨_,_,hT₃,rfl,?_,by simp⟩ hTe
 ·obtain⟨sl,hsl⟩:=hs₁.2.2 b o hb
  exact⟨sl,keep b _ hbe hsl⟩
 ·simp only[List.size_toArray,List.length_append,List.length_cons,List.length_nil] <;> omega
structure Fly(h0:HV)(fr:List Addr)(e t cl:Addr)(v hd fl:Value)(h:Heap):Prop where
 old:∀b o,b∉fr→h0 b=some o→h.get? b=some o
 sl:∀b o,h0 b=some o→∃sl,h.get? b=some { o with slots:=sl }
 ne:h0 e=none
 nt:h0 t=none
 he:h.get? e=some { cls:= .ref cl,data:= .fields #[.ref t,hd,.none,.none,.bool false,.none] }
 ht:h.get? t=some { cls:= .type "tuple",data:= .seq #[v] }
 hd:(hd= .none)∨∃tb otb tvs,hd= .ref tb∧tb≠e∧h0 tb=none∧h.get? tb=some otb∧otb.data= .fields tvs∧3<tvs.size∧tvs[3]? =some fl
theorem note_fly{env:Env}{outer:List Env}{L e t cl:Addr}{h0:HV}{fr:List Addr}{v hd:Value}{Q:Unit→Shared→Prop}
  (hfr:A.frames=some (env::outer)) (hl:FrL s.heap (env::outer)) (hf:env.frame=some L) (F:Fly h0 fr e t cl v hd .none s.heap) (hsub:∀b∈frA (env::outer),b∈fr∨h0 b=none)
  (h:∀h' tb,Fly h0 fr e t cl v (.ref tb) (rawInt L) h'→(∀b m,s.heap.Ns b m→h'.Ns b m)→Q () { s with heap:=h' }):
  wpAny M A (noteFrame (.ref e) env) Q E s:=by
 obtain⟨old,sl,hne,hnt,he,ht,hhd⟩:=F
 unfold noteFrame
 simp only[hf]
 refine wpAny_bind (wpAny_field he rfl (x:=hd) rfl ?_)
 rcases hhd with rfl|⟨tb,otb,tvs,rfl,htbe,hntb,htb,htd,hsz,h3⟩
 ·rw[if_neg kD]
  refine entry_step hfr hl hf he rfl (by simp) fun h' tb k1 k2 k3 k4 k5 k6=> ?_
  have hte:t≠e:=fun e'=>by rw[e',he] at ht;cases ht
  have htf:t∉frA (env::outer):=fun hm=>by
   obtain⟨m,o,es,ep,ho,hd,_⟩:=hl.mem hm
   rw[ht] at ho;cases ho;cases hd
  refine h h' tb ⟨fun b o hb e'=> ?_,fun b o e'=> ?_,hne,hnt,k4,k1 t _ htf hte ht,.inr ?_⟩ fun b m hn=>ns_slots (fun o ho=>k2 b o (ns_ne_fields hn he rfl) ho) hn
  ·refine k1 b o (fun hm=>(hsub b hm).elim hb fun e2=>by rw[e2] at e';cases e') (fun e2=>by rw[e2,hne] at e';cases e') (old b o hb e')
  ·obtain⟨s1,e1⟩:=sl b o e'
   obtain⟨s2,e2⟩:=k2 b _ (fun e2=>by rw[e2,hne] at e';cases e') e1
   exact⟨s2,e2⟩
  ·obtain⟨otb,tvs,e1,e2,e3,e4⟩:=k5
   exact⟨tb,otb,tvs,rfl,k6,hnone (fun⟨o,ho⟩=>(by obtain⟨s1,e5⟩:=sl _ o ho;rw[k3] at e5;cases e5)),e1,e2,e3,e4⟩
 ·rw[if_pos (show (Value.ref tb !=Value.none)=true from by simp)]
  refine wpAny_bind (wpAny_field htb htd h3 ?_)
  rw[if_neg (show¬((Value.none==rawInt L)=true) from by simp[rawInt])]
  refine wpAny_bind (wpAny_setField htb htd hsz ?_)
  have hd':=Obj.data_mapFields htd (·.setIfInBounds 3 Value.none)
  have oth:∀b,b≠tb→(s.heap.update tb (Obj.mapFields (·.setIfInBounds 3 Value.none))).get? b=s.heap.get? b:=fun b hb=>Heap.get?_update_other _ _ (Ne.symm hb)
  have hns:∀b m,s.heap.Ns b m→(s.heap.update tb (Obj.mapFields (·.setIfInBounds 3 Value.none))).Ns b m:=fun b m hn=>hn.at fun o ho=>(oth b (ns_ne_fields hn htb htd)).trans ho
  have hte:t≠e:=fun e'=>by rw[e',he] at ht;cases ht
  have htt:t≠tb:=fun e'=>by rw[e',htb] at ht;cases ht;cases htd
  have htf:t∉frA (env::outer):=fun hm=>by
   obtain⟨m,o,es,ep,ho,hd,_⟩:=hl.mem hm
   rw[ht] at ho;cases ho;cases hd
  refine entry_step hfr (hl.slots hns) hf ((oth e (Ne.symm htbe)).trans he) rfl (by simp) fun h' tb2 k1 k2 k3 k4 k5 k6=> ?_
  have ob:∀b o,h0 b=some o→b≠tb:=fun b o e' e2=>by rw[e2,hntb] at e';cases e'
  have obe:∀b o,h0 b=some o→b≠e:=fun b o e' e2=>by rw[e2,hne] at e';cases e'
  refine h h' tb2 ⟨fun b o hb e'=> ?_,fun b o e'=> ?_,hne,hnt,k4,k1 t _ htf hte ((oth t htt).trans ht),.inr ?_⟩ fun b m hn=>ns_slots (fun o ho=>k2 b o (ns_ne_fields hn he rfl) ((oth b (ns_ne_fields hn htb htd)).trans ho)) hn
  ·refine k1 b o (fun hm=>(hsub b hm).elim hb fun e2=>by rw[e2] at e';cases e') (obe b o e') ((oth b (ob b o e')).trans (old b o hb e'))
  ·obtain⟨s1,e1⟩:=sl b o e'
   obtain⟨s2,e2⟩:=k2 b _ (obe b o e') ((oth b (ob b o e')).trans e1)
   exact⟨s2,e2⟩
  ·obtain⟨otb',tvs',e1,e2,e3,e4⟩:=k5
   refine⟨tb2,otb',tvs',rfl,k6,hnone fun⟨o,ho⟩=> ?_,e1,e2,e3,e4⟩
   obtain⟨s1,e5⟩:=sl _ o ho
   rw[←oth _ (ob _ o ho),k3] at e5;cases e5
theorem flight_fly{e t cl tb:Addr}{h0:HV}{fr:List Addr}{v fl:Value}{Q:Unit→Shared→Prop}(F:Fly h0 fr e t cl v (.ref tb) fl s.heap)
  (h:∀h',Fly h0 fr e t cl v (.ref tb) .none h'→(∀b m,s.heap.Ns b m→h'.Ns b m)→Q () { s with heap:=h' }):wpAny M A (setFlight (.ref e) none) Q E s:=by
 obtain⟨old,sl,hne,hnt,he,ht,hhd⟩:=F
 rcases hhd with hhd|⟨tb',otb,tvs,hh,htbe,hntb,htb,htd,hsz,h3⟩
 ·cases hhd
 ·cases hh
  unfold setFlight
  refine wpAny_bind (wpAny_field he rfl (x:= .ref tb) rfl ?_)
  rw[if_pos (show (Value.ref tb !=Value.none)=true from by simp)]
  have hd':=Obj.data_mapFields htd (·.setIfInBounds 3 Value.none)
  have oth:∀b,b≠tb→(s.heap.update tb (Obj.mapFields (·.setIfInBounds 3 Value.none))).get? b=s.heap.get? b:=fun b hb=>Heap.get?_update_other _ _ (Ne.symm hb)
  have ob:∀b o,h0 b=some o→b≠tb:=fun b o e' e2=>by rw[e2,hntb] at e';cases e'
  refine wpAny_setField htb htd hsz (h _ ⟨fun b o hb e'=>(oth b (ob b o e')).trans (old b o hb e'),fun b o e'=> ?_,hne,hnt,(oth e (Ne.symm htbe)).trans he,?_,.inr ⟨tb,_,_,rfl,htbe,hntb,Heap.get?_update_self _ htb (Obj.isFreed_of_fields hd'),hd',by simpa using hsz,by simp[hsz]⟩⟩ fun b m hn=>hn.at fun o ho=>(oth b (ns_ne_fields hn htb htd)).trans ho)
  ·obtain⟨s1,e1⟩:=sl b o e'
   exact⟨s1,(oth b (ob b o e')).trans e1⟩
  ·refine(oth t fun e'=> ?_).trans ht
   rw[e',htb] at ht;cases ht;cases htd
end
section
variable{C:Cx}{n:Nat}{r:Ev}{k:Bool}{A:Around}{env:Env}{Y Y' W J:List Addr}{OL N:List (Str×Addr)}{l l':LocB}{s s' s'' s1 s2:Shared}{Z Z':Addr→Prop}
theorem tab_no_code{h:Heap}(t:TabOk C h){a:Addr}{m:Str→Option Value}(n:h.Ns a m):¬CodeAt C h a:=fun hc=>by
 obtain⟨ps,h1,h2,h3⟩:=t
 obtain⟨ps',pos,e1,e2⟩:=hc
 rw[h1] at e1;cases e1
 obtain⟨c,o,vs,t,rfl',ho,hd,_⟩:=h3 pos _ e2
 cases rfl'
 exact ns_ne_fields n ho hd rfl
structure FlyS(C:Cx)(s:Shared)(fr:List Addr)(e t cl:Addr)(v hd fl:Value)(s':Shared):Prop where
 ex:∃(H0:HV) (fr':List Addr),Fly H0 fr' e t cl v hd fl s'.heap∧(∀b o,b≠C.P→s.heap.get? b=some o→H0 b=some o)∧
  (∀h',(∀b o,b∉fr'→H0 b=some o→h'.get? b=some o)→TabTo C s.heap h')∧(∀b∈fr',b∈fr∨s.heap.get? b=none)∧(∀b∈fr,b∈fr')
 st:∃tk,s'={ s with heap:=s'.heap,toks:=tk }∧s.toks≤tk
 nw:s.heap.get? e=none∧s.heap.get? t=none
theorem FlyS.kw{fr:List Addr}{e t cl:Addr}{v hd fl:Value}(F:FlyS C s fr e t cl v hd fl s'):KW C (·∈fr) s s':=by
 obtain⟨⟨H0,fr',F1,h1,h2,h3,h4⟩,⟨tk,e1,e2⟩,nw⟩:=F
 exact⟨s'.heap,tk,e1,e2,fun b o hP hb e=>F1.old b o (fun hm=>(h3 b hm).elim hb fun e'=>by rw[e'] at e;cases e) (h1 b o hP e),fun b hP ⟨o,e⟩=>by
  obtain⟨sl,e'⟩:=F1.sl b o (h1 b o hP e)
  exact⟨_,e'⟩,h2 _ F1.old⟩
theorem FlyS.note{env:Env}{outer:List Env}{L e t cl:Addr}{fr:List Addr}{v hd:Value}{Q:Unit→Shared→Prop}{E:Value→Shared→Prop}(F:FlyS C s fr e t cl v hd .none s')
  (hfr:A.frames=some (env::outer)) (hl:FrL s'.heap (env::outer)) (hf:env.frame=some L) (hsub:∀b∈frA (env::outer),b∈fr)
  (h:∀h' tb,FlyS C s fr e t cl v (.ref tb) (rawInt L) { s' with heap:=h' }→(∀b m,s'.heap.Ns b m→h'.Ns b m)→Q () { s' with heap:=h' }):
  wpAny C.M A (noteFrame (.ref e) env) Q E s':=by
 obtain⟨⟨H0,fr',F1,h1,h2,h3,h4⟩,⟨tk,e1,e2⟩,nw⟩:=F
 refine note_fly hfr hl hf F1 (fun b hb=> .inl (h4 b (hsub b hb))) fun h' tb F2 k=>h h' tb ⟨⟨H0,fr',F2,h1,h2,h3,h4⟩,⟨tk,?_,e2⟩,nw⟩ k
 rw[e1]
theorem FlyS.flight{e t cl tb:Addr}{fr:List Addr}{v fl:Value}{Q:Unit→Shared→Prop}{E:Value→Shared→Prop}(F:FlyS C s fr e t cl v (.ref tb) fl s')
  (h:∀h',FlyS C s fr e t cl v (.ref tb) .none { s' with heap:=h' }→(∀b m,s'.heap.Ns b m→h'.Ns b m)→Q () { s' with heap:=h' }):
  wpAny C.M A (setFlight (.ref e) none) Q E s':=by
 obtain⟨⟨H0,fr',F1,h1,h2,h3,h4⟩,⟨tk,e1,e2⟩,nw⟩:=F
 refine flight_fly F1 fun h' F2 k=>h h' ⟨⟨H0,fr',F2,h1,h2,h3,h4⟩,⟨tk,?_,e2⟩,nw⟩ k
 rw[e1]
theorem call_raise(S:SS C n r){f:Str}{fn:Fn}{a:Addr}{as:List D}{vs:List Value}{c x:Str}{l0:LocB}{outer:List Env}{Q E:Value→Shared→Prop}(hf:C.fns.lookup f=some fn)(hm:C.mg f=some (.ref a))(bs:Base C)(g:Gr C s)(hP:C.P∈Y)(hY:∀a∈Y,C.g0.get? a=none)(hYs:∀a∈Y,∃o,s.heap.get? a=some o)
  (hA:CRoom n A) (hfr:A.frames=some outer) (fl:FrL s.heap outer) (hb:bindP fn.names as=some l0) (hs:Ssl r false fn.scope l0 fn.body=some (.exc c (.str x),l')) (hr:RDs C s.heap Y vs as)
  (q:∀e t cl tb tk s',FlyS C s (frA outer) e t cl (.str x tk) (.ref tb) .none s'→C.mg c=some (.ref cl)→(∀b m,s.heap.Ns b m→s'.heap.Ns b m)→E (.ref e) s'):
  wpAny C.M A (call (.ref a) vs) Q E s:=by
 have ok:=okFn_of (bs.okf f fn hf)
 obtain⟨a',o,pm,code,doc,hm',ho,hd,hc⟩:=bs.fn f fn hf
 rw[hm] at hm';cases hm'
 have hdep:=hA.depth
 have hlen:fn.names.length=vs.length:=(bindP_len hb).trans hr.length.symm
 refine wpAny_call (codeAny_call_function (fd:=docDef f fn.params fn.body fn.scope pm code doc) (body:=fn.body) (by have:recursionLimit=1000:=rfl;omega) (g.keep _ _ ho) hd ok.co ok.gen rfl (hc.keeps g.keep) ?_)
 rw[bindArgs_plain ok.plain rfl (by show fn.params.args.length=vs.length;simpa [Fn.names] using hlen)]
 refine wpAny_pure (ne ?_)
 refine newFrame (k:=false) (n:=n) (A:=A) ok bs g hP hY hYs (fun env=>hA.deeper) hb hr (fun h=>by cases h) fun env s1 kp fs hn _ hsc hef=>⟨bs.nolimit.keeps (g.kp bs kp).keep,codeAny_func ?_⟩
 refine Ssl_sound S fn.body [] l0 l' (.exc c (.str x)) s1 _ _ fs (by rw[hsc];exact hs) fun e t cl v s2 kw he hcl hoe ht hto rd hns=> ?_
 obtain⟨tk,rfl⟩:∃tk,v= .str x tk:=by cases rd;exact⟨_,rfl⟩
 have new:∀b,ZO [] env b→s.heap.get? b=none:=fun b hb=>hn b (by simpa using hb)
 have t0:=g.tab
 have old:∀b o,b≠C.P→s.heap.get? b=some o→s2.heap.get? b=some o:=fun b o hbP e=>kw.heap hbP (fun hz=>by rw[new b hz] at e;cases e) (kp.heap hbP e)
 have hns2:∀b m,s.heap.Ns b m→s2.heap.Ns b m:=fun b m h=>h.at fun o e=>old b o (tab_no_ns t0 h) e
 have kws:KW C (fun _=>False) s s2:=(KP.kw kp (Z:=fun _=>False)).transNew kw fun b hb=> .inr (new b hb)
 have kp2:KP C s s2:=KP.of_kw kws
 have hes:s.heap.get? e=none:=newIn kp.kw t0 he (Z:=fun _=>False)
 have hts:s.heap.get? t=none:=newIn kp.kw t0 ht (Z:=fun _=>False)
 have fl2:FrL s2.heap (env::outer):=fun x hx=>by
  rcases zcon.mp hx with rfl|hx
  ·obtain⟨m,hm⟩:=hns
   exact⟨by rw[fs.pre.eo.kind];decide,_,m,hef,hm⟩
  ·exact(fl.slots hns2) x hx
 have t2:=kp2.tab t0
 have hte:t≠e:=fun e'=>by rw[e',hoe] at hto;cases hto
 obtain⟨H0,F1,g1,g2⟩:∃H0:HV,Fly H0 (frA (env::outer)) e t cl (.str x tk) .none .none s2.heap∧(∀b o,b≠C.P→s.heap.get? b=some o→H0 b=some o)∧
  (∀h',(∀b o,b∉frA (env::outer)→H0 b=some o→h'.get? b=some o)→TabTo C s.heap h'):=by
  refine⟨fun b=>if b=e∨b=t then none else s2.heap.get? b,⟨fun b o _ e0=> ?_,fun b o e0=> ?_,if_pos (.inl rfl),if_pos (.inr rfl),hoe,hto,.inl rfl⟩,fun b o hP' e=> ?_,fun h' k=> ?_⟩
  ·change (if b=e∨b=t then none else s2.heap.get? b)=some o at e0
   split at e0
   ·cases e0
   ·exact e0
  ·change (if b=e∨b=t then none else s2.heap.get? b)=some o at e0
   split at e0
   ·cases e0
   ·exact⟨o.slots,e0⟩
  ·dsimp only
   rw[if_neg]
   ·exact old b o hP' e
   ·rintro (h|h)
    ·rw[h,hes] at e;cases e
    ·rw[h,hts] at e;cases e
  ·refine TabTo.trans kp2.tabTo (fun x=> ?_) fun t b h=>kp2.some t h
   have x':=x
   obtain⟨ps,p1,p2,p3⟩:=x
   have kk:∀b o,s2.heap.get? b=some o→(b=C.P∨CodeAt C s2.heap b)→h'.get? b=some o:=fun b o ho hb=>by
    refine k b o (fun hm=> ?_) ?_
    ·obtain⟨m,hn⟩:=fl2.mem hm
     rcases hb with hb|hb
     ·exact tab_no_ns x' hn hb
     ·exact tab_no_code x' hn hb
    ·dsimp only
     rw[if_neg]
     ·exact ho
     ·rintro (h|h)
      ·subst h
       rcases hb with hb|⟨ps',pos,q1,q2⟩
       ·rw[hb,p1] at hoe;cases hoe
       ·rw[p1] at q1;cases q1
        obtain⟨c',o',vs',t',h5,h6,h7,h8⟩:=p3 pos _ q2
        cases h5
        rw[hoe] at h6;cases h6
        cases h7;cases h8
      ·subst h
       rcases hb with hb|⟨ps',pos,q1,q2⟩
       ·rw[hb,p1] at hto;cases hto
       ·rw[p1] at q1;cases q1
        obtain⟨c',o',vs',t',h5,h6,h7,h8⟩:=p3 pos _ q2
        cases h5
        rw[hto] at h6;cases h6
        cases h7
   have h1':=kk _ _ p1 (.inl rfl)
   refine⟨⟨ps,h1',p2,fun pos cv e=> ?_⟩,fun c hc=> ?_⟩
   ·obtain⟨c,o,vs,t,rfl,ho,hd⟩:=p3 pos cv e
    exact⟨c,o,vs,t,rfl,kk _ _ ho (.inr ⟨ps,pos,p1,e⟩),hd⟩
   ·obtain⟨ps',pos,e1,e2⟩:=hc
    rw[h1'] at e1;cases e1
    exact .inl ⟨ps,pos,p1,e2⟩
 obtain⟨h2,tk2,e2,ht2,_⟩:=kp2
 unfold leaving
 refine wpAny_bind (note_fly (Around.frames_deeper hfr) fl2 hef F1 (fun b hb=> .inl hb) fun h3 tb F2 k3=> ?_)
 refine flight_fly (s:={ s2 with heap:=h3 }) F2 fun h4 F3 k4=> ?_
 refine q e t cl tb tk _ ⟨⟨H0,_,F3,g1,g2,fun b hb=> ?_,fun b hb=> ?_⟩,⟨tk2,by rw[e2],ht2⟩,hes,hts⟩ hcl fun b m h=>k4 b m (k3 b m (hns2 b m h))
 ·rw[frA,List.filterMap_cons,hef] at hb
  rcases zcon.mp hb with rfl|hb
  ·exact .inr (hn _ zmS)
  ·exact .inl hb
 ·rw[frA,List.filterMap_cons,hef]
  exact zmC _ hb
end
section
variable{C:Cx}{n:Nat}{r:Ev}{k:Bool}{A B:Around}{env:Env}{Y Y' W J:List Addr}{OL N:List (Str×Addr)}{l l':LocB}{s s' s'' s1 s2:Shared}{Z Z':Addr→Prop}
structure Hd(A:Around)(env:Env)(outer:List Env)(Y:List Addr)(h:Heap):Prop where
 fr:A.frames=some (env::outer)
 fl:FrL h (env::outer)
 fY:∀b∈frA (env::outer),b∈Y
 ef:env.frame=some env.locals
theorem Hd.ns{outer:List Env}{h h':Heap}(H:Hd A env outer Y h)(k:∀b m,h.Ns b m→h'.Ns b m):Hd A env outer Y h':=⟨H.fr,H.fl.slots k,H.fY,H.ef⟩
theorem FS.fly{outer:List Env}{e t cl:Addr}{v hd fl:Value}(fs:FS C n k A env Y [] l s)(H:Hd A env outer Y s.heap)(F:FlyS C s (frA (env::outer)) e t cl v hd fl s1)(hns:∀b m,s.heap.Ns b m→s1.heap.Ns b m):FS C n k A env Y [] l s1:=by
 refine fs.out' F.kw H.fY (fun _=>hns env.locals) fun p hp hm=> ?_
 obtain⟨m,o,es,ep,ho,hd,_⟩:=H.fl.mem hm
 obtain⟨u,o',ho',hd'⟩:=fs.pre.fm.cl p hp
 rw[ho] at ho';cases ho';rw[hd] at hd';cases hd'
theorem caught{outer:List Env}{e t cl tb:Addr}{v:Value}{hs:List ExceptHandler}{Q:Flow→Shared→Prop}{E:Value→Shared→Prop}(fs:FS C n k A env Y [] l s)(H:Hd A env outer Y s.heap)
  (F:FlyS C s (frA (env::outer)) e t cl v (.ref tb) .none s1) (hns:∀b m,s.heap.Ns b m→s1.heap.Ns b m)
  (h:∀s2 tb2,FlyS C s (frA (env::outer)) e t cl v (.ref tb2) .none s2→(∀b m,s.heap.Ns b m→s2.heap.Ns b m)→FS C n k A env Y [] l s2→Hd A env outer Y s2.heap→wpAny C.M A (handleBy (.ref e) env hs) Q E s2):
  wpAny C.M A (noteFrame (.ref e) env) (fun _ s2=>wpAny C.M A (setFlight (.ref e) none) (fun _ s3=>wpAny C.M A (handleBy (.ref e) env hs) Q E s3) E s2) E s1:=by
 have H1:=H.ns hns
 refine F.note H.fr H1.fl H.ef (fun b hb=>hb) fun h2 tb2 F2 k2=> ?_
 refine F2.flight fun h3 F3 k3=> ?_
 have kk:∀b m,s.heap.Ns b m→h3.Ns b m:=fun b m x=>k3 b m (k2 b m (hns b m x))
 exact h _ tb2 F3 kk (fs.fly H F3 kk) (H.ns kk)
theorem FlyS.at{fr:List Addr}{e t cl:Addr}{v hd fl:Value}(F:FlyS C s fr e t cl v hd fl s'):s'.heap.get? e=some { cls:= .ref cl,data:= .fields #[.ref t,hd,.none,.none,.bool false,.none] }∧s'.heap.get? t=some { cls:= .type "tuple",data:= .seq #[v] }∧s.heap.get? e=none∧s.heap.get? t=none:=by
 obtain⟨⟨H0,fr',F1,h1,h2,h3,h4⟩,tk,nw⟩:=F
 exact⟨F1.he,F1.ht,nw⟩
theorem FlyS.setFlight2{e t cl tb:Addr}{fr:List Addr}{v fl:Value}{Q:Unit→Shared→Prop}{E:Value→Shared→Prop}(F:FlyS C s fr e t cl v (.ref tb) fl s')
  (h:∀h',FlyS C s fr e t cl v (.ref tb) .none { s' with heap:=h' }→(∀b m,s'.heap.Ns b m→h'.Ns b m)→Q () { s' with heap:=h' }):
  wpAny C.M B (setFlight (.ref e) none) Q E s':=F.flight h
theorem clause_miss{e t cl clR clP c':Addr}{c:Str}{hd:Value}{nm:Str}{body:List Stmt}{p1 p2:Pos}{rest:List ExceptHandler}{oe:Obj}{Q:Flow→Shared→Prop}{E:Value→Shared→Prop}(X:ExcK C clR clP)(fs:FS C n k A env Y OL l s)
  (hk:env.kindOf c=some .globalImplicit) (hdb:(c==("__debug__":Str))=false) (hc:C.mg c=some (.ref c')) (he:s.heap.get? e=some oe) (hcl:oe.cls= .ref cl) (m1:cl∈[clR,clP]) (m2:c'∈[clR,clP]) (hne:cl≠c')
  (h:wpAny C.M A (handleBy (.ref e) env rest) Q E s):
  wpAny C.M A (handleBy (.ref e) env (.ExceptHandler (some (.Name c p1)) (some nm) body p2::rest)) Q E s:=by
 refine wpAny_handleBy_cons (codeAny_handlers_test (ne (E_global fs.pre hk hc hdb ?_))) (by intro q;cases q)
 refine exc_matches X fs.pre.gr.keep he hcl m1 m2 ?_
 rw[decide_eq_false hne]
 exact h
theorem clause_hit{e t cl clR clP:Addr}{c:Str}{hd v:Value}{nm:Str}{b0:Stmt}{body:List Stmt}{p1 p2:Pos}{rest:List ExceptHandler}{outer:List Env}{tb:Addr}{Q:Flow→Shared→Prop}{E:Value→Shared→Prop}(X:ExcK C clR clP)(fs:FS C n k A env Y [] l s)(H:Hd A env outer Y s.heap)
  (F:FlyS C s (frA (env::outer)) e t cl v (.ref tb) .none s1) (hns:∀b m,s.heap.Ns b m→s1.heap.Ns b m)
  (hk:env.kindOf c=some .globalImplicit) (hdb:(c==("__debug__":Str))=false) (hc:C.mg c=some (.ref cl)) (m1:cl∈[clR,clP]) (hnm:env.kindOf nm=some .local)
  (h:∀s3,KW C (fun b=>b∈frA (env::outer)∨b∈frameW env) s s3→FS C n k A env Y [] (setL l nm (.val (.opq (.ref e)))) s3→Hd A env outer Y s3.heap→(∀b m,b∉frameW env→s.heap.Ns b m→s3.heap.Ns b m)→s3.heap.get? e=some { cls:= .ref cl,data:= .fields #[.ref t,.ref tb,.none,.none,.bool false,.none] }→s3.heap.get? t=some { cls:= .type "tuple",data:= .seq #[v] }→
   wpAny C.M (A.mark (some (.ref e))) (execs (b0::body) env) (fun f s4=>wpAny C.M A (do bindName env nm .none;unbindBehindTheSuite env nm p2) (fun _ s5=>Q f s5) E s4) NE s3):
  wpAny C.M A (handleBy (.ref e) env (.ExceptHandler (some (.Name c p1)) (some nm) (b0::body) p2::rest)) Q E s1:=by
 have fs1:=fs.fly H F hns
 obtain⟨a1,a2,a3,a4⟩:=F.at
 refine wpAny_handleBy_cons (codeAny_handlers_test (ne (E_global fs1.pre hk hc hdb ?_))) (by intro q;cases q)
 refine exc_matches X fs1.pre.gr.keep a1 rfl m1 m1 ?_
 rw[decide_eq_true rfl]
 refine codeAny_handlers_suite_as (F.setFlight2 fun h2 F2 k2=> ?_)
 have kk:∀b m,s.heap.Ns b m→h2.Ns b m:=fun b m x=>k2 b m (hns b m x)
 have fs2:=fs.fly H F2 kk
 obtain⟨b1,b2,b3,b4⟩:=F2.at
 refine ne (fs2.assign (B:=A.mark (some (.ref e))) (d:= .opq (.ref e)) (.inl hnm) (.opq _) fun s3 kw3 fs3=> ?_)
 have t2:=fs2.pre.gr.tab
 have new:∀a,s.heap.get? a=none→a≠C.P∧¬ZO [] env a:=fun a ha=>by
  refine⟨fun e'=> ?_,fun hz=> ?_⟩
  ·obtain⟨ps,hp,_⟩:=fs.pre.gr.tab
   rw[e',hp] at ha;cases ha
  ·obtain⟨o,ho⟩:=fs.pre.hYs a (ZO.sub fs.wY hz)
   rw[ha] at ho;cases ho
 have hns3:∀b∈frA (env::outer),(∃m,h2.Ns b m)→∃m,s3.heap.Ns b m:=fun b hb ⟨m,hm⟩=>by
  by_cases e':b=env.locals
  ·subst e';exact fs3.pre.fm.ns
  ·refine⟨m,hm.at fun o ho=>kw3.heap (tab_no_ns t2 hm) (fun hz=> ?_) ho⟩
   have hz':b∈frameW env:=by simpa using hz
   rcases zcon.mp hz' with h|h
   ·exact e' h
   ·obtain⟨q,hq,rfl⟩:=zmap.mp (zfil.mp h).1
    obtain⟨u,o',ho',hd'⟩:=fs2.pre.fm.cl q hq
    rw[ho'] at ho;cases ho
    obtain⟨o2,es,ep,ho2,hd2,_⟩:=hm
    rw[ho'] at ho2;cases ho2;rw[hd2] at hd';cases hd'
 have H3:Hd A env outer Y s3.heap:=⟨H.fr,fun x hx=>by
  obtain⟨z1,L,m,z2,z3⟩:=(H.fl.slots kk) x hx
  obtain⟨m',z4⟩:=hns3 L (List.mem_filterMap.mpr ⟨x,hx,z2⟩) ⟨m,z3⟩
  exact⟨z1,L,m',z2,z4⟩,H.fY,H.ef⟩
 refine ne (h s3 ((F2.kw.mono fun b hb=>Or.inl hb).trans (kw3.mono fun b hb=>Or.inr (by simpa using hb))) fs3 H3 (fun b m hb hm=>(kk b m hm).at fun o ho=>kw3.heap (tab_no_ns t2 (kk b m hm)) (fun hz=>hb (by simpa using hz)) ho) (kw3.heap (new e b3).1 (new e b3).2 b1) (kw3.heap (new t b4).1 (new t b4).2 b2))
theorem FS.goes{x:Str}{pos:Pos}{Q:Unit→Shared→Prop}{E:Value→Shared→Prop}(fs:FS C n k A env Y [] l s)(hk:env.kindOf x=some .local)
  (q:∀s',KW C (·∈frameW env) s s'→FS C n k A env Y [] (fun y=>if y=x then none else l y) s'→Q () s'):wpAny C.M B (do bindName env x .none;unbindBehindTheSuite env x pos) Q E s:=by
 obtain⟨m,hn⟩:=fs.pre.fm.ns
 refine wpAny_nameGoes_keeps hk hn (by rw[fs.pre.eo.kind];rfl) fun h' v hn' hs=> ?_
 have hlW:env.locals∈olA []++frameW env:=zmr _ zmS
 have kw:KW C (·=env.locals) s { s with heap:=h',toks:=s.toks+1 }:=KW.one (Nat.le_succ _) rfl (fs.own.ne _ hlW) (fs.own.code _ hlW) (fun b o hb e=>by rw[hs.2 b hb];exact e) (by obtain⟨o,es,ep,ho,_⟩:=hn';exact⟨o,ho⟩)
 have hc:∀p∈env.cells,¬p.2=env.locals:=fun p hp e=>fs.pre.fm.ne hp e
 have hZ:∀b,b=env.locals→b∈olA []++Y:=fun b hb=>hb▸zmr _ (fs.wY _ zmS)
 have t:=fs.pre.gr.tab
 refine q _ (kw.mono fun b hb=>hb▸zmS) ⟨⟨fs.pre.bs,fs.pre.a,fs.pre.eo,fs.pre.gr.kw fs.pre.bs kw fun b hb=>fs.pre.hY b (hZ b hb),fs.pre.hP,fs.pre.hY,fun a ha=>kw.exs t (fs.pre.hYs a ha),⟨⟨_,hn'⟩,fun p hp=> ?_,fs.pre.fm.apart⟩,fs.pre.hc,fun y d hy=> ?_⟩,fs.hP,fs.cY,fs.own.kw t kw,fs.wY,fs.nY,fs.ap,fs.cw,fun y ds hy=> ?_⟩
 ·obtain⟨v,hv⟩:=fs.pre.fm.cl p hp
  obtain⟨o,ho,hd⟩:=id hv
  exact⟨v,o,kw.heap (tab_no_cell t hv) (hc p hp) ho,hd⟩
 ·by_cases e:y=x
  ·unfold purL at hy;dsimp only at hy;rw[if_pos e] at hy;cases hy
  ·have hy':purL l y=some d:=by unfold purL at hy ⊢;dsimp only at hy;rw[if_neg e] at hy;exact hy
   obtain⟨u,hu,ru⟩:=fs.pre.loc y d hy'
   refine⟨u,?_,RD.kw kw fs.pre.hP hZ ru⟩
   rcases hu with ⟨hk,m2,hn2,hm2⟩|⟨hk,c,hcl,hv⟩
   ·refine .inl ⟨hk,_,hn',?_⟩
    rw[if_neg e,hn.agree hn2];exact hm2
   ·obtain⟨o,ho,hd⟩:=id hv
    exact .inr ⟨hk,c,hcl,o,kw.heap (tab_no_cell t hv) (hc _ (mem_of_lookup hcl)) ho,hd⟩
 ·by_cases e:y=x
  ·rw[if_pos e] at hy;cases hy
  ·rw[if_neg e] at hy
   obtain⟨a,vs,m',h1,_⟩:=fs.lst y ds hy
   cases h1
end
structure HrdFn(fn:Fn)(nw nr:Str)(ie se:Expr):Prop where
 ok:okFn fn=true
 names:fn.names=(["state","reply"]:List Str)
 loc:∀x∈([nw,nr,"book","state","reply","error","words","found"]:List Str),fn.scope.names.lookup x=some .local
 glb:∀x∈(["str","parse257","parse229","error_reply","error_proto"]:List Str),fn.scope.names.lookup x=some .globalImplicit
 ne1:∀x∈(["error","words","found"]:List Str),x≠nw∧x≠nr∧x≠"book"∧x≠"reply"
 ne2:nw≠nr∧nw≠"book"∧nr≠"book"∧nw≠"reply"∧nr≠"reply"
 dbg:∀x∈[nw,nr],(x==("__debug__":Str))=false∧(x==("__classdict__":Str))=false
 shape:∃p:Nat→Pos,fn.body=[
  .Assign [.Tuple [.Name "book" (p 0),.Name nw (p 1),.Name nr (p 2)] 0 (p 3)] (.Name "state" (p 4)) (p 5),
  .Try [.Return (some (.Tuple [.Name "book" (p 6),.BinOp (.Name nw (p 7)) .Add (.List [.Call (.Name "parse257" (p 8)) [.Name "reply" (p 9)] [] (p 10)] (p 11)) (p 12),.Name nr (p 13)] 0 (p 14))) (p 15)]
   [.ExceptHandler (some (.Name "error_reply" (p 16))) (some "error") [.Assign [.Name "words" (p 17)] (.Call (.Name "str" (p 18)) [.Name "error" (p 19)] [] (p 20)) (p 21)] (p 22)] [] [] (p 23),
  .Try [.Assign [.Name "found" (p 24)] (.Call (.Name "parse229" (p 25)) [.Name "words" (p 26),.Tuple [.Constant (.str "peer") 0 (p 27),.Constant (.int 21) 0 (p 28)] 0 (p 29)] [] (p 30)) (p 31)]
   [.ExceptHandler (some (.Name "error_reply" (p 32))) (some "error") [.Return (some (.Tuple [.Name "book" (p 33),.Name nw (p 34),.BinOp (.Name nr (p 35)) .Add (.List [.BinOp (.Constant (.str "no ") 0 (p 36)) .Add (.Call (.Name "str" (p 37)) [.Name "error" (p 38)] [] (p 39)) (p 40)] (p 41)) (p 42)] 0 (p 43))) (p 44)] (p 45),
    .ExceptHandler (some (.Name "error_proto" (p 46))) (some "error") [.Return (some (.Tuple [.Name "book" (p 47),.Name nw (p 48),.BinOp (.Name nr (p 49)) .Add (.List [.Call (.Name "str" (p 50)) [.Name "error" (p 51)] [] (p 52)] (p 53)) (p 54)] 0 (p 55))) (p 56)] (p 57)] [] [] (p 58),
  .Assign [.Subscript (.Name "book" (p 59)) ie (p 60)] (.Name "found" (p 61)) (p 62),
  .Return (some (.Tuple [.Name "book" (p 63),se,.Name nr (p 64)] 0 (p 65))) (p 66)]∧isStarred se=false
def PRet(C:Cx)(r:Ev)(f:Str)(as:List D)(d:D):Prop:=∃fn l0 l',C.fns.lookup f=some fn∧bindP fn.names as=some l0∧Ssl r false fn.scope l0 fn.body=some (.ret d,l')
def PExc(C:Cx)(r:Ev)(f:Str)(as:List D)(c x:Str):Prop:=∃fn l0 l',C.fns.lookup f=some fn∧bindP fn.names as=some l0∧Ssl r false fn.scope l0 fn.body=some (.exc c (.str x),l')
abbrev peerD:D:= .tup [.str "peer",.int 21]
inductive HStep (C:Cx) (r:Ev) (fn:Fn) (nw:Str) (ie se:Expr):List (Str×D)×List D×List D→Str→List (Str×D)×List D×List D→Prop
 |name {kvs w q t x}:PRet C r "parse257" [.str t] (.str x)→w.length+1≤lim→HStep C r fn nw ie se (kvs,w,q) t (kvs,w++[.str x],q)
 |found {kvs w q t y d key w'}:PExc C r "parse257" [.str t] "error_reply" y→PRet C r "parse229" [.str y,peerD] d→(∀l:Loc,l nw=some (.list w)→r.E false fn.scope l ie=some (.str key))→
   (∀l:Loc,l nw=some (.list w)→r.E false fn.scope l se=some (.list w'))→kvs.length≤1000→HStep C r fn nw ie se (kvs,w,q) t (storedS kvs key d,w',q)
 |reply {kvs w q t y z}:PExc C r "parse257" [.str t] "error_reply" y→PExc C r "parse229" [.str y,peerD] "error_reply" z→3+z.length≤lim→q.length+1≤lim→HStep C r fn nw ie se (kvs,w,q) t (kvs,w,q++[.str (("no ":Str)++z)])
 |proto {kvs w q t y z}:PExc C r "parse257" [.str t] "error_reply" y→PExc C r "parse229" [.str y,peerD] "error_proto" z→q.length+1≤lim→HStep C r fn nw ie se (kvs,w,q) t (kvs,w,q++[.str z])
section
variable{C:Cx}{n:Nat}{r:Ev}{k:Bool}{A B:Around}{env:Env}{Y Y' W J:List Addr}{OL N:List (Str×Addr)}{l l':LocB}{s s' s'' s1 s2:Shared}{Z Z':Addr→Prop}
def BK(C:Cx)(s:Shared)(Y:List Addr)(DB:Addr)(kvs:List (Str×D)):Prop:=∃(o:Obj) (ks:List Str) (vs:List Value) (ds:List D),s.heap.get? DB=some o∧o.IsDictOf (strKind C.prog C.w) (ks.zip vs)∧ks.length=vs.length∧RDs C s.heap Y vs ds∧kvs=ks.zip ds
theorem BK.kw{DB:Addr}{kvs:List (Str×D)}(b:BK C s Y DB kvs)(x:KW C Z s s')(hP:C.P∈Y)(hZ:∀b,Z b→b∈Y)(h1:DB≠C.P)(h2:¬Z DB):BK C s' Y DB kvs:=by
 obtain⟨o,ks,vs,ds,e1,e2,e3,e4,e5⟩:=b
 exact⟨o,ks,vs,ds,x.heap h1 h2 e1,e2,e3,RDs.kw x hP hZ e4,e5⟩
def NsK(s si:Shared):Prop:=∀b m,s.heap.Ns b m→si.heap.Ns b m
theorem NsK.kp(t:TabOk C s.heap)(kp:KP C s s1):NsK s s1:=fun b m h=>h.at fun o ho=>kp.heap (tab_no_ns t h) ho
theorem triple{e1 e2 e3:Expr}{kd:Nat}{pos:Pos}{Q:Value→Shared→Prop}{E:Value→Shared→Prop}(h1:isStarred e1=false)(h2:isStarred e2=false)(h3:isStarred e3=false)
  (h:wpAny C.M B (eval e1 env) (fun v1 s1=>wpAny C.M B (eval e2 env) (fun v2 s2=>wpAny C.M B (eval e3 env) (fun v3 s3=>Q (.ref s3.heap.objs.size) { s3 with heap:=s3.heap.push (tupO [v1,v2,v3] 0) }) E s2) E s1) E s):
  wpAny C.M B (eval (.Tuple [e1,e2,e3] kd pos) env) Q E s:=by
 refine wpAny_Tuple (args_cons (wpAny_mono h (fun v1 s1 g1=>args_cons (wpAny_mono g1 (fun v2 s2 g2=>args_cons (wpAny_mono g2 (fun v3 s3 g3=>args_nil ⟨by simp;decide,g3⟩) fun _ _ x=>x) (starEach_plain h3)) fun _ _ x=>x) (starEach_plain h2)) fun _ _ x=>x) (starEach_plain h1))
theorem one_list{e1:Expr}{pos:Pos}{Q:Value→Shared→Prop}{E:Value→Shared→Prop}(h1:isStarred e1=false)
  (h:wpAny C.M B (eval e1 env) (fun v1 s1=>Q (.ref s1.heap.objs.size) { s1 with heap:=s1.heap.push (lstO [v1] 0) }) E s):
  wpAny C.M B (eval (.List [e1] pos) env) Q E s:=
 wpAny_List (args_cons (wpAny_mono h (fun v1 s1 g1=>args_nil ⟨by simp;decide,g1⟩) fun _ _ x=>x) (starEach_plain h1))
structure HL(l:LocB)(nw nr:Str)(DB:Addr)(w q:List D)(t:Str):Prop where
 b:l "book"=some (.val (.opq (.ref DB)))
 w:l nw=some (.val (.list w))
 q:l nr=some (.val (.list q))
 t:l "reply"=some (.val (.str t))
theorem HL.set{nw nr:Str}{DB:Addr}{w q:List D}{t:Str}(h:HL l nw nr DB w q t){x:Str}{d:D}(hx:x≠nw∧x≠nr∧x≠"book"∧x≠"reply"):HL (setL l x (.val d)) nw nr DB w q t:=
 ⟨by unfold setL;rw[if_neg (Ne.symm hx.2.2.1)];exact h.b,by unfold setL;rw[if_neg (Ne.symm hx.1)];exact h.w,by unfold setL;rw[if_neg (Ne.symm hx.2.1)];exact h.q,by unfold setL;rw[if_neg (Ne.symm hx.2.2.2)];exact h.t⟩
theorem HL.del{nw nr:Str}{DB:Addr}{w q:List D}{t:Str}(h:HL l nw nr DB w q t){x:Str}(hx:x≠nw∧x≠nr∧x≠"book"∧x≠"reply"):HL (fun y=>if y=x then none else l y) nw nr DB w q t:=
 ⟨(if_neg (Ne.symm hx.2.2.1)).trans h.b,(if_neg (Ne.symm hx.1)).trans h.w,(if_neg (Ne.symm hx.2.1)).trans h.q,(if_neg (Ne.symm hx.2.2.2)).trans h.t⟩
theorem str_error{clR clP e t cl tb:Addr}{x:Str}{tk:Tok}{p1 p2 p3:Pos}{Q:Value→Shared→Prop}(X:ExcK C clR clP)(fs:FS C n k A env Y OL l s)(hu:B.units+2<cLine)(h1:env.kindOf "str"=some .globalImplicit)(h2:l "error"=some (.val (.opq (.ref e))))(m1:cl∈[clR,clP])
  (he:s.heap.get? e=some { cls:= .ref cl,data:= .fields #[.ref t,.ref tb,.none,.none,.bool false,.none] }) (ht:s.heap.get? t=some { cls:= .type "tuple",data:= .seq #[.str x tk] }) (q:Q (.str x tk) s):
  wpAny C.M B (eval (.Call (.Name "str" p1) [.Name "error" p2] [] p3) env) Q NE s:=by
 refine Call_Name rfl (E_builtin (v:= .type "str") fs.pre h1 kD boot_str' kD ?_)
 refine PyProof.Rows.callWith_type (by rfl) (evalArgs_plain (spliced_cons (ldVar fs h2 kD kD fun u ru=>spliced_nil ?_)))
 have hu':=Mine.R.opq_inv ru
 subst hu'
 exact call_str_exc X fs.pre.gr.keep hu he ht m1 q
end
section
variable{C:Cx}{n:Nat}{r:Ev}{k:Bool}{A B:Around}{env:Env}{Y Y' W J:List Addr}{OL N:List (Str×Addr)}{l l':LocB}{s s' s'' s1 s2 s3:Shared}{Z Z':Addr→Prop}
structure HX(C:Cx)(s:Shared)(outer:List Env)(env:Env)(Y:List Addr)(DB:Addr)(kvs:List (Str×D))(si:Shared):Prop where
 kw:KW C (fun b=>b=DB∨b∈frA outer∨b∈frameW env) s si
 ns:∀b m,b≠DB→s.heap.Ns b m→si.heap.Ns b m
 bk:BK C si (frameW env++Y) DB kvs
structure HG(C:Cx)(s:Shared)(outer:List Env)(env:Env)(Y:List Addr)(DB:Addr):Prop where
 hn:∀a∈frameW env,s.heap.get? a=none
 hcn:∀p∈env.cells,p.2∈frameW env
 hP:C.P∈Y
 hYs:∀a∈Y,∃o,s.heap.get? a=some o
 hDY:DB∈Y
 hDP:DB≠C.P
 hDf:DB∉frA outer
 hfY:∀b∈frA outer,b∈Y
 hfl:FrL s.heap outer
 tab:TabOk C s.heap
theorem HG.dw{outer:List Env}{DB:Addr}(G:HG C s outer env Y DB):DB∉frameW env:=fun hm=>by
 obtain⟨o,e⟩:=G.hYs DB G.hDY
 rw[G.hn DB hm] at e;cases e
theorem HX.step{outer:List Env}{DB:Addr}{kvs:List (Str×D)}(G:HG C s outer env Y DB)(x:HX C s outer env Y DB kvs s1)(kw:KW C (·∈frameW env) s1 s2):HX C s outer env Y DB kvs s2:=by
 have t1:=(x.kw.tabTo G.tab).1
 refine⟨x.kw.trans (kw.mono fun b hb=> .inr (.inr hb)),fun b m hb h=>(x.ns b m hb h).at fun o ho=>kw.heap (tab_no_ns t1 (x.ns b m hb h)) (fun hz=> ?_) ho,x.bk.kw kw (zmr _ G.hP) (fun b hb=>zmL _ hb) G.hDP G.dw⟩
 obtain⟨o',es,ep,ho',_⟩:=h
 rw[G.hn b hz] at ho';cases ho'
theorem HX.kp{outer:List Env}{DB:Addr}{kvs:List (Str×D)}(G:HG C s outer env Y DB)(x:HX C s outer env Y DB kvs s1)(kp:KP C s1 s2):HX C s outer env Y DB kvs s2:=x.step G kp.kw
theorem HX.frames{outer:List Env}{DB:Addr}{kvs:List (Str×D)}(G:HG C s outer env Y DB)(x:HX C s outer env Y DB kvs s1)(kw:KW C (fun b=>b∈frA outer∨b∈frameW env) s1 s2)(hns:∀b m,b∉frameW env→s1.heap.Ns b m→s2.heap.Ns b m):HX C s outer env Y DB kvs s2:=by
 refine⟨x.kw.trans (kw.mono fun b hb=> .inr hb),fun b m hb h=>hns b m (fun hm=> ?_) (x.ns b m hb h),x.bk.kw kw (zmr _ G.hP) (fun b hb=> ?_) G.hDP fun hz=>hz.elim G.hDf G.dw⟩
 ·obtain⟨o',es,ep,ho',_⟩:=h
  rw[G.hn b hm] at ho';cases ho'
 ·rcases hb with hb|hb
  ·exact zmr _ (G.hfY b hb)
  ·exact zmL _ hb
theorem mk_tup{DB:Addr}{w q:List D}{v2 v3:Value}{Yf:List Addr}(hP:C.P∈Yf)(hlt:∀a∈Yf,a<s3.heap.objs.size)
  (r2:RD C s3.heap Yf v2 (.list w)) (r3:RD C s3.heap Yf v3 (.list q)):RD C (s3.heap.push (tupO [.ref DB,v2,v3] 0)) Yf (.ref s3.heap.objs.size) (.tup [.opq (.ref DB),.list w,.list q]):=by
 have kp:KP C s3 { s3 with heap:=s3.heap.push (tupO [.ref DB,v2,v3] 0) }:=KP.push (tk:=s3.toks) nL
 exact .tup (n:=0) (new_view (tk:=s3.toks) (o:=tupO [.ref DB,v2,v3] 0) hlt rfl) (.cons (.opq _) (.cons (RD.kp kp hP r2) (.cons (RD.kp kp hP r3) .nil)))
abbrev EndQ(C:Cx)(s:Shared)(outer:List Env)(Y:List Addr)(DB:Addr)(kvs:List (Str×D))(w q:List D)(Q:Value→Shared→Prop):Prop:=
 ∀v' s',KW C (fun b=>b=DB∨b∈frA outer) s s'→(∀b m,b≠DB→s.heap.Ns b m→s'.heap.Ns b m)→RD C s'.heap Y v' (.tup [.opq (.ref DB),.list w,.list q])→BK C s' Y DB kvs→Q v' s'
theorem heard_end{outer:List Env}{DB:Addr}{kvs:List (Str×D)}{w q:List D}{v:Value}{Q:Value→Shared→Prop}(G:HG C s outer env Y DB)(x:HX C s outer env Y DB kvs s3)
  (rv:RD C s3.heap (frameW env++Y) v (.tup [.opq (.ref DB),.list w,.list q])) (qq:EndQ C s outer Y DB kvs w q Q):Q v s3:=by
 have hsub:∀a∈Y,a∈frameW env++Y:=fun a ha=>zmr _ ha
 refine qq _ _ ((KW.refl s).transNew x.kw fun b hb=> ?_) x.ns (Mine.R.mono (view_sub hsub) rv) ?_
 ·rcases hb with h|h|h
  ·exact .inl (.inl h)
  ·exact .inl (.inr h)
  ·exact .inr (G.hn b h)
 ·obtain⟨o,ks,vs,ds,e1,e2,e3,e4,e5⟩:=x.bk
  exact⟨o,ks,vs,ds,e1,e2,e3,Rs.mono (view_sub hsub) e4,e5⟩
theorem HX.put{outer:List Env}{DB:Addr}{kvs:List (Str×D)}{key:Str}{d:D}{tk:Tok}{v:Value}{Q:Unit→Shared→Prop}(G:HG C s outer env Y DB)(x:HX C s outer env Y DB kvs s1)(fs:FS C n k A env (frameW env++Y) [] l s1)(hl:kvs.length≤1000)(rv:RD C s1.heap (frameW env++Y) v d)
  (q:∀s2,HX C s outer env Y DB (storedS kvs key d) s2→FS C n k A env (frameW env++Y) [] l s2→Q () s2):wpAny C.M B (setItem (.ref DB) (.str key tk) v) Q NE s1:=by
 obtain⟨o,ks,vs,ds,e1,e2,e3,e4,e5⟩:=x.bk
 have hlen:(ks.zip vs).length≤1000:=by
  have h4:=e4.length
  rw[e5] at hl
  simp only[List.length_zip] at hl ⊢
  omega
 refine wpAny_setItem_pairs (knd:=strKind C.prog C.w) (strKind_is _ _ key tk) (Heap.dictOf_iff.mpr ⟨o,e1,e2⟩) (fun h' hD hs=> ?_) (znT hlen kD)
 obtain⟨o',ho',hod'⟩:=Heap.dictOf_iff.mp hD
 obtain⟨ks',vs',ds',f1,f2,f3,f4⟩:=stored_rel (C:=C) (H:=view s1.heap (frameW env++Y)) (x:=key) e3 e4 rv
 have hnc:¬CodeAt C s1.heap DB:=fun hc=>by
  obtain⟨ps,h1,h2,h3⟩:=fs.pre.gr.tab
  obtain⟨ps',pos,g1,g2⟩:=hc
  rw[h1] at g1;cases g1
  obtain⟨c,oc,ws,t,hcv,hoc,hdc,_⟩:=h3 pos _ g2
  cases hcv
  rw[e1] at hoc;cases hoc
  obtain⟨es,ep,_,hdd,_⟩:=e2
  rw[hdd] at hdc;cases hdc
 have kw:KW C (·=DB) s1 { s1 with heap:=h',toks:=s1.toks+1 }:=KW.one (Nat.le_succ _) rfl G.hDP hnc (fun b o hb e=>by rw[hs.2 b hb];exact e) ⟨o',ho'⟩
 have hDY:DB∈frameW env++Y:=zmr _ G.hDY
 refine q _ ⟨x.kw.trans (kw.mono fun b hb=> .inl hb),fun b m hb h=>(x.ns b m hb h).at fun o ho=>(hs.2 b hb).trans ho,o',ks',vs',ds',ho',f1▸hod',f3,?_,by rw[e5];exact f2⟩ (fs.out kw (fun b hb=>hb▸hDY) (fun e=>G.dw (e▸zmS)) fun p hp e=>G.dw (e▸G.hcn p hp))
 exact Rs.mono (fun a o e=>by
  obtain⟨e,nn⟩:=view_get e
  exact view_of ((hs.2 a fun e'=>nn (e'▸hDY)).trans e) nn) f4
end
section
variable{C:Cx}{n:Nat}{r:Ev}{k:Bool}{A B:Around}{env:Env}{Y Y' W J:List Addr}{OL N:List (Str×Addr)}{l l':LocB}{s s' s'' s1 s2 s3:Shared}{Z Z':Addr→Prop}
structure HS(C:Cx)(n:Nat)(A:Around)(env:Env)(outer:List Env)(Y:List Addr)(s:Shared)(DB:Addr)(nw nr:Str)(kvs:List (Str×D))(w q:List D)(t:Str)(l:LocB)(si:Shared):Prop where
 fs:FS C n false (A.deeper env) env (frameW env++Y) [] l si
 hx:HX C s outer env Y DB kvs si
 hd:Hd (A.deeper env) env outer (frameW env++Y) si.heap
 hl:HL l nw nr DB w q t
theorem HS.kp{outer:List Env}{DB:Addr}{nw nr t:Str}{kvs:List (Str×D)}{w q:List D}(G:HG C s outer env Y DB)(h:HS C n A env outer Y s DB nw nr kvs w q t l s1)(kp:KP C s1 s2):HS C n A env outer Y s DB nw nr kvs w q t l s2:=
 ⟨h.fs.kp kp,h.hx.kp G kp,h.hd.ns (NsK.kp h.fs.pre.gr.tab kp),h.hl⟩
theorem cat_one{w:List D}{x:D}{v2 v3:Value}{Q:Value→Shared→Prop}{B:Around}(fs:FS C n k A env Y OL l s)(h2:RD C s.heap (olA OL++Y) v2 (.list w))(h3:RD C s.heap (olA OL++Y) v3 x)(hw:w.length+1≤lim)
  (q:∀v s',KP C s s'→RD C s'.heap (olA OL++Y) v (.list (w++[x]))→Q v s'):
  wpAny C.M B (binaryOp .Add v2 (.ref s.heap.objs.size)) Q NE { s with heap:=s.heap.push (lstO [v3] 0) }:=by
 have kp:KP C s { s with heap:=s.heap.push (lstO [v3] 0) }:=KP.push (tk:=s.toks) nL
 have p2:=fs.pre.kp kp
 refine bin_sound (a:= .list w) (b:= .list [x]) p2.hP p2.lt (by show (if w.length+[x].length≤lim then some (D.list (w++[x])) else none)=_;rw[if_pos (by simpa using hw)]) (RD.kp kp fs.pre.hP h2) (.list (n:=0) (new_view (tk:=s.toks) (o:=lstO [v3] 0) fs.pre.lt rfl) (.cons (RD.kp kp fs.pre.hP h3) .nil)) fun v s3 k3 r3=>q v s3 (kp.trans k3) r3
theorem heard_refuse{outer:List Env}{DB e:Addr}{nw nr t m:Str}{kvs:List (Str×D)}{w q:List D}{fn:Fn}{ie se:Expr}(hf:HrdFn fn nw nr ie se)(G:HG C s outer env Y DB)(h:HS C n A env outer Y s DB nw nr kvs w q t l s1)
  {ex:Expr} (hex:isStarred ex=false) {p1 p2 p3 p4 p5 p6 p7:Pos}
  (heval:∀(Q:Value→Shared→Prop),(∀tk s2,KP C s1 s2→Q (.str m tk) s2)→wpAny C.M B (eval ex env) Q NE s1) (hq:q.length+1≤lim) {Q:Flow→Shared→Prop}
  (qq:∀v s2,FS C n false (A.deeper env) env (frameW env++Y) [] l s2→HX C s outer env Y DB kvs s2→RD C s2.heap (frameW env++Y) v (.tup [.opq (.ref DB),.list w,.list (q++[.str m])])→Q (.ret v) s2):
  wpAny C.M B (execs [.Return (some (.Tuple [.Name "book" p1,.Name nw p2,.BinOp (.Name nr p3) .Add (.List [ex] p4) p5] 0 p6)) p7] env) Q NE s1:=by
 refine wpAny_execs_cons (wpAny_Return_some (triple rfl rfl rfl (ldVar h.fs h.hl.b kD kD fun v1 r1=> ?_)))
 have e1:=Mine.R.opq_inv r1
 subst e1
 refine ldVar h.fs h.hl.w (hf.dbg nw (by simp)).1 (hf.dbg nw (by simp)).2 fun v2 r2=> ?_
 refine wpAny_BinOp (ldVar h.fs h.hl.q (hf.dbg nr (by simp)).1 (hf.dbg nr (by simp)).2 fun v3 r3=>one_list hex (heval _ fun tk s2 kp=> ?_))
 have h2:=h.kp G kp
 refine cat_one h2.fs (RD.kp kp h.fs.pre.hP r3) (.str m tk) hq fun v s3 k3 rv=> ?_
 have h3:=h2.kp G k3
 have kp4:KP C s3 { s3 with heap:=s3.heap.push (tupO [.ref DB,v2,v] 0) }:=KP.push (tk:=s3.toks) nL
 have h4:=h3.kp G kp4
 exact qq _ _ h4.fs h4.hx (mk_tup (by simpa using h3.fs.pre.hP) (by simpa using h3.fs.pre.lt) (by simpa using RD.kp (kp.trans k3) h.fs.pre.hP r2) (by simpa using rv))
theorem peer_eval{p1 p2 p3:Pos}{Q:Value→Shared→Prop}(fs:FS C n k A env Y OL l s)(q:∀v s',KP C s s'→RD C s'.heap (olA OL++Y) v peerD→Q v s'):wpAny C.M B (eval (.Tuple [.Constant (.str "peer") 0 p1,.Constant (.int 21) 0 p2] 0 p3) env) Q NE s:=by
 refine wpAny_Tuple (args_cons (E_str (C:=C) (Y:=olA OL++Y) fun v1 s1 k1 r1=>args_cons (E_int (C:=C) (Y:=olA OL++Y) fun v2 s2 k2 r2=>args_nil ⟨by simp;decide,?_⟩)))
 have kp:KP C s2 { s2 with heap:=s2.heap.push (tupO [v1,v2] 0) }:=KP.push (tk:=s2.toks) nL
 have p:=fs.pre.kp (k1.trans k2)
 exact q _ _ ((k1.trans k2).trans kp) (.tup (n:=0) (new_view (tk:=s2.toks) (o:=tupO [v1,v2] 0) p.lt rfl) (.cons (RD.kp (k2.trans kp) p.hP r1) (.cons (RD.kp kp p.hP r2) .nil)))
theorem heard_clause{outer:List Env}{DB clR clP e t0 cl tb:Addr}{c nw nr t z m:Str}{tk:Tok}{kvs:List (Str×D)}{w q:List D}{fn:Fn}{ie se:Expr}(hf:HrdFn fn nw nr ie se)(X:ExcK C clR clP)(G:HG C s outer env Y DB)(h:HS C n A env outer Y s DB nw nr kvs w q t l s1)(hsc:env.scope=fn.scope)
  (hu:A.units+10<cLine) (F:FlyS C s1 (frA (env::outer)) e t0 cl (.str z tk) (.ref tb) .none s2) (hns:∀b m,s1.heap.Ns b m→s2.heap.Ns b m) (hc:C.mg c=some (.ref cl)) (m1:cl∈[clR,clP]) (hcn:c="error_reply"∨c="error_proto")
  {ex:Expr} (hex:isStarred ex=false) {p0 p1 p2 p3 p4 p5 p6 p7 p8:Pos} {rest:List ExceptHandler}
  (heval:∀(l:LocB) (s3:Shared),l "error"=some (.val (.opq (.ref e)))→FS C n false (A.deeper env) env (frameW env++Y) [] l s3→s3.heap.get? e=some { cls:= .ref cl,data:= .fields #[.ref t0,.ref tb,.none,.none,.bool false,.none] }→s3.heap.get? t0=some { cls:= .type "tuple",data:= .seq #[.str z tk] }→
   ∀(Q:Value→Shared→Prop),(∀tk s2,KP C s3 s2→Q (.str m tk) s2)→wpAny C.M ((A.deeper env).mark (some (.ref e))) (eval ex env) Q NE s3) (hq:q.length+1≤lim)
  {Q:Value→Shared→Prop} {QF:Flow→Shared→Prop} {E:Value→Shared→Prop} (hQF:∀v s,Q v s→QF (.ret v) s) (qq:EndQ C s outer Y DB kvs w (q++[.str m]) Q):
  wpAny C.M (A.deeper env) (handleBy (.ref e) env (.ExceptHandler (some (.Name c p0)) (some "error") [.Return (some (.Tuple [.Name "book" p1,.Name nw p2,.BinOp (.Name nr p3) .Add (.List [ex] p4) p5] 0 p6)) p7] p8::rest)) QF E s2:=by
 have hkl:∀x∈([nw,nr,"book","state","reply","error","words","found"]:List Str),env.kindOf x=some .local:=fun x hx=>by
  show env.scope.names.lookup x=_
  rw[hsc];exact hf.loc x hx
 have hkg:∀x∈(["str","parse257","parse229","error_reply","error_proto"]:List Str),env.kindOf x=some .globalImplicit:=fun x hx=>by
  show env.scope.names.lookup x=_
  rw[hsc];exact hf.glb x hx
 have hkc:env.kindOf c=some .globalImplicit∧(c==("__debug__":Str))=false:=by
  rcases hcn with rfl|rfl
  ·exact⟨hkg _ (by simp),by decide⟩
  ·exact⟨hkg _ (by simp),by decide⟩
 refine clause_hit (hd:= .none) X h.fs h.hd F hns hkc.1 hkc.2 hc m1 (hkl "error" (by simp)) fun s3 kw3 fs3 H3 hns3 he3 ht3=> ?_
 have kw3':KW C (fun b=>b∈frA outer∨b∈frameW env) s1 s3:=kw3.mono fun b hb=>by
  rcases hb with hb|hb
  ·rw[frA,List.filterMap_cons,h.hd.ef] at hb
   rcases zcon.mp hb with hb|hb
   ·exact .inr (hb▸zmS)
   ·exact .inl hb
  ·exact .inr hb
 have hx3:=h.hx.frames G kw3' hns3
 have le3:setL l "error" (.val (.opq (.ref e))) "error"=some (.val (.opq (.ref e))):=by unfold setL;rw[if_pos rfl]
 have h3:HS C n A env outer Y s DB nw nr kvs w q t (setL l "error" (.val (.opq (.ref e)))) s3:=⟨fs3,hx3,H3,h.hl.set (hf.ne1 "error" (by simp))⟩
 refine heard_refuse (B:=(A.deeper env).mark (some (.ref e))) (e:=e) (m:=m) hf G h3 hex (heval _ s3 le3 fs3 he3 ht3) hq fun v s4 fs4 hx4 rv=> ?_
 refine fs4.goes (hkl "error" (by simp)) fun s5 kw5 fs5=>hQF v s5 ?_
 exact heard_end G (hx4.step G kw5) (RD.kw kw5 (zmr _ G.hP) (fun b hb=>zmL _ hb) rv) qq
theorem heard_two(S:Snd C n r){outer:List Env}{DB clR clP:Addr}{nw nr t y:Str}{kvs kvs':List (Str×D)}{w q w' q':List D}{fn:Fn}{ie se:Expr}{p:Nat→Pos}(hf:HrdFn fn nw nr ie se)(X:ExcK C clR clP)(G:HG C s outer env Y DB)(h:HS C (n+1) A env outer Y s DB nw nr kvs w q t l s1)(hsc:env.scope=fn.scope)
  (hu:A.units+10<cLine) (hw:l "words"=some (.val (.str y))) (hse:isStarred se=false)
  (hcase:(∃d key,PRet C r "parse229" [.str y,peerD] d∧(∀l:Loc,l nw=some (.list w)→r.E false fn.scope l ie=some (.str key))∧(∀l:Loc,l nw=some (.list w)→r.E false fn.scope l se=some (.list w'))∧kvs.length≤1000∧kvs'=storedS kvs key d∧q'=q)∨
   (∃z,PExc C r "parse229" [.str y,peerD] "error_reply" z∧3+z.length≤lim∧q.length+1≤lim∧kvs'=kvs∧w'=w∧q'=q++[.str (("no ":Str)++z)])∨
   (∃z,PExc C r "parse229" [.str y,peerD] "error_proto" z∧q.length+1≤lim∧kvs'=kvs∧w'=w∧q'=q++[.str z]))
  {Q:Value→Shared→Prop} {QF:Flow→Shared→Prop} {E:Value→Shared→Prop} (hQF:∀v s,Q v s→QF (.ret v) s) (qq:EndQ C s outer Y DB kvs' w' q' Q):
  wpAny C.M (A.deeper env) (execs [
  .Try [.Assign [.Name "found" (p 24)] (.Call (.Name "parse229" (p 25)) [.Name "words" (p 26),.Tuple [.Constant (.str "peer") 0 (p 27),.Constant (.int 21) 0 (p 28)] 0 (p 29)] [] (p 30)) (p 31)]
   [.ExceptHandler (some (.Name "error_reply" (p 32))) (some "error") [.Return (some (.Tuple [.Name "book" (p 33),.Name nw (p 34),.BinOp (.Name nr (p 35)) .Add (.List [.BinOp (.Constant (.str "no ") 0 (p 36)) .Add (.Call (.Name "str" (p 37)) [.Name "error" (p 38)] [] (p 39)) (p 40)] (p 41)) (p 42)] 0 (p 43))) (p 44)] (p 45),
    .ExceptHandler (some (.Name "error_proto" (p 46))) (some "error") [.Return (some (.Tuple [.Name "book" (p 47),.Name nw (p 48),.BinOp (.Name nr (p 49)) .Add (.List [.Call (.Name "str" (p 50)) [.Name "error" (p 51)] [] (p 52)] (p 53)) (p 54)] 0 (p 55))) (p 56)] (p 57)] [] [] (p 58),
  .Assign [.Subscript (.Name "book" (p 59)) ie (p 60)] (.Name "found" (p 61)) (p 62),
  .Return (some (.Tuple [.Name "book" (p 63),se,.Name nr (p 64)] 0 (p 65))) (p 66)] env) QF E s1:=by
 have hkl:∀x∈([nw,nr,"book","state","reply","error","words","found"]:List Str),env.kindOf x=some .local:=fun x hx=>by
  show env.scope.names.lookup x=_
  rw[hsc];exact hf.loc x hx
 have hkg:∀x∈(["str","parse257","parse229","error_reply","error_proto"]:List Str),env.kindOf x=some .globalImplicit:=fun x hx=>by
  show env.scope.names.lookup x=_
  rw[hsc];exact hf.glb x hx
 have bs:=h.fs.pre.bs
 obtain⟨fp,hfp⟩:∃fp,C.fns.lookup ("parse229":Str)=some fp:=by
  rcases hcase with ⟨d,key,⟨fp,l0,l',h1,_⟩,_⟩|⟨z,⟨fp,l0,l',h1,_⟩,_⟩|⟨z,⟨fp,l0,l',h1,_⟩,_⟩ <;> exact⟨fp,h1⟩
 obtain⟨a,oa,pm,code,doc,hm,hoa,hda,hcr⟩:=bs.fn _ fp hfp
 refine wpAny_execs_cons (wpAny_Try_except (wpAny_execs_cons (wpAny_Assign_Name ?_ (by rfl))))
 refine Call_Name rfl (ne (E_global h.fs.pre (hkg "parse229" (by simp)) hm kD ?_))
 refine callWith_function (o:=oa) (fd:=docDef "parse229" fp.params fp.body fp.scope pm code doc) (evalArgs_plain (spliced_cons (ne (ldVar h.fs hw kD kD fun u ru=>spliced_cons (ne (peer_eval h.fs fun u2 s2 kp ru2=>spliced_nil ⟨⟨(h.fs.kp kp).pre.gr.keep _ _ hoa,hda⟩,?_⟩))))))
 have h2:=h.kp G kp
 have p2:=h2.fs.pre
 have rs:RDs C s2.heap (olA []++(frameW env++Y)) [u,u2] [.str y,peerD]:= .cons (RD.kp kp h.fs.pre.hP ru) (.cons ru2 .nil)
 have room:CRoom n (A.deeper env):=p2.a.room
 rcases hcase with ⟨d,key,⟨fp',l0,l',h1,hb,hs⟩,hie,hse',hk1,rfl,rfl⟩|⟨z,⟨fp',l0,l',h1,hb,hs⟩,hz,hq,rfl,rfl,rfl⟩|⟨z,⟨fp',l0,l',h1,hb,hs⟩,hq,rfl,rfl,rfl⟩
 ·rw[hfp] at h1;cases h1
  refine call_sound S.S hfp hm bs p2.gr p2.hP p2.hY p2.hYs room hb hs rs fun v s3 kp3 rv=> ?_
  have h3:=h2.kp G kp3
  refine ne (h3.fs.assign (.inl (hkl "found" (by simp))) rv fun s4 kw4 fs4=>wpAny_execs_nil (wpAny_execs_nil ?_))
  have kw4':KW C (·∈frameW env) s3 s4:=kw4.mono fun b hb=>by simpa using hb
  have hx4:=h3.hx.step G kw4'
  have hl4:=h3.hl.set (d:=d) (hf.ne1 "found" (by simp))
  have lf4:setL l "found" (.val d) "found"=some (.val d):=by unfold setL;rw[if_pos rfl]
  generalize setL l "found" (.val d)=l4 at fs4 hl4 lf4
  have pw:purL l4 nw=some (.list w):=by unfold purL;rw[hl4.w]
  refine wpAny_execs_cons (wpAny_Assign_Subscript (ne (ldVar fs4 lf4 kD kD fun vf rf=>ne (ldVar fs4 hl4.b kD kD fun vb rb=>ne (S.E.at (fs4.pre.mono (Nat.le_succ n)) (by rw[hsc];exact hie _ pw) fun vi s5 kp5 p5 ri=>ne ?_)))) (by rfl))
  have e1:=Mine.R.opq_inv rb
  subst e1
  obtain⟨tki,rfl⟩:=ri.str_inv
  have fs5:=fs4.kp kp5
  have hx5:=hx4.kp G kp5
  refine hx5.put G fs5 hk1 (by simpa using RD.kp kp5 fs4.pre.hP rf) fun s6 hx6 fs6=> ?_
  refine wpAny_execs_cons (wpAny_Return_some (triple rfl hse rfl (ne (ldVar fs6 hl4.b kD kD fun v1 r1=>ne (S.E.at (fs6.pre.mono (Nat.le_succ n)) (by rw[hsc];exact hse' _ pw) fun v2 s7 kp7 p7 r2=>ne (ldVar (fs6.kp kp7) hl4.q (hf.dbg nr (by simp)).1 (hf.dbg nr (by simp)).2 fun v3 r3=> ?_))))))
  have e1:=Mine.R.opq_inv r1
  subst e1
  have fs7:=fs6.kp kp7
  have hx7:=hx6.kp G kp7
  have kp8:KP C s7 { s7 with heap:=s7.heap.push (tupO [.ref DB,v2,v3] 0) }:=KP.push (tk:=s7.toks) nL
  exact hQF _ _ (heard_end G (hx7.kp G kp8) (mk_tup (by simpa using fs7.pre.hP) (by simpa using fs7.pre.lt) (by simpa using r2) (by simpa using r3)) qq)
 ·rw[hfp] at h1;cases h1
  refine call_raise S.S hfp hm bs p2.gr p2.hP p2.hY p2.hYs room h2.hd.fr h2.hd.fl hb hs rs fun e t0 cl tb tk s3 F hcl hns=> ?_
  refine caught h2.fs h2.hd F hns fun s4 tb2 F4 hns4 fs4 H4=> ?_
  have hcR:cl=clR:=by have:=X.mR;rw[hcl] at this;injection this with this;injection this
  refine heard_clause (m:=("no ":Str)++z) hf X G h2 hsc hu F4 hns4 hcl (by simp[hcR]) (.inl rfl) rfl (fun l9 s9 le9 fs9 he9 ht9 Q9 q9=> ?_) hq hQF qq
  refine wpAny_BinOp (E_str (C:=C) (Y:=olA []++(frameW env++Y)) fun v1 s10 k10 r1=> ?_)
  have he10:s10.heap.get? e=_:=k10.heap (fs9.pre.gr.ne he9 (by intro h;cases h)) he9
  have ht10:s10.heap.get? t0=_:=k10.heap (fs9.pre.gr.ne ht9 (by intro h;cases h)) ht9
  refine str_error X (fs9.kp k10) (by show A.units+3+2<cLine;omega) (hkg "str" (by simp)) le9 (by simp[hcR]) he10 ht10 ?_
  have p10:=(fs9.kp k10).pre
  have hz':("no ":Str).length+z.length≤lim:=by
   have:("no ":Str).length=3:=by decide
   omega
  refine bin_sound (a:= .str "no ") (b:= .str z) p10.hP p10.lt (by show (if (("no ":Str)).length+z.length≤lim then some (D.str (("no ":Str)++z)) else none)=_;exact if_pos hz') r1 (.str z tk) fun v s11 k11 r11=> ?_
  obtain⟨tk11,rfl⟩:=r11.str_inv
  exact q9 _ _ (k10.trans k11)
 ·rw[hfp] at h1;cases h1
  refine call_raise S.S hfp hm bs p2.gr p2.hP p2.hY p2.hYs room h2.hd.fr h2.hd.fl hb hs rs fun e t0 cl tb tk s3 F hcl hns=> ?_
  refine caught h2.fs h2.hd F hns fun s4 tb2 F4 hns4 fs4 H4=> ?_
  have hcP:cl=clP:=by have:=X.mP;rw[hcl] at this;injection this with this;injection this
  refine clause_miss (t:=t0) (hd:= .none) X fs4 (hkg "error_reply" (by simp)) kD X.mR F4.at.1 rfl (by simp[hcP]) (by simp) (by rw[hcP];exact X.ne.symm) ?_
  refine heard_clause (m:=z) hf X G h2 hsc hu F4 hns4 hcl (by simp[hcP]) (.inr rfl) rfl (fun l9 s9 le9 fs9 he9 ht9 Q9 q9=> ?_) hq hQF qq
  exact str_error X fs9 (by show A.units+3+2<cLine;omega) (hkg "str" (by simp)) le9 (by simp[hcP]) he9 ht9 (q9 _ _ (KP.refl _))
end
section
variable{C:Cx}{n:Nat}{r:Ev}{k:Bool}{A B:Around}{env:Env}{Y Y' W J:List Addr}{OL N:List (Str×Addr)}{l l':LocB}{s s' s'' s1 s2 s3:Shared}{Z Z':Addr→Prop}
theorem heard_call(S:Snd C n r){f:Str}{fn:Fn}{nw nr t:Str}{ie se:Expr}(hf:HrdFn fn nw nr ie se){clR clP:Addr}(X:ExcK C clR clP)(bs:Base C){af:Addr}{o:Obj}{pm code doc:Value}(ho:C.g0.get? af=some o)(hd:o.data= .func (docDef f fn.params fn.body fn.scope pm code doc))(hc:C.g0.CodeRec code f)
  {outer:List Env} (g:Gr C s) (hP:C.P∈Y) (hY:∀a∈Y,C.g0.get? a=none) (hYs:∀a∈Y,∃o,s.heap.get? a=some o) (aok:AOk (n+2) A) (hfr:A.frames=some outer) (hfl:FrL s.heap outer) (hfY:∀b∈frA outer,b∈Y) {DB:Addr} (hDY:DB∈Y) (hDP:DB≠C.P) (hDf:DB∉frA outer)
  {va vd:Value} {kvs kvs':List (Str×D)} {w q w' q':List D} (hv:RD C s.heap Y va (.tup [.opq (.ref DB),.list w,.list q])) (ht:RD C s.heap Y vd (.str t)) (hbk:BK C s Y DB kvs) (hst:HStep C r fn nw ie se (kvs,w,q) t (kvs',w',q')) {Q E:Value→Shared→Prop} (qq:EndQ C s outer Y DB kvs' w' q' Q):
  wpAny C.M A (call (.ref af) [va,vd]) Q E s:=by
 have ok:=okFn_of hf.ok
 have room:CRoom (n+1) A:=aok.room
 have hdep:=room.depth
 have hun:=room.units
 have hnames:fn.params.args.map (·.arg)=(["state","reply"]:List Str):=hf.names
 have hlen:fn.params.args.length=2:=by have:=congrArg List.length hnames;simpa using this
 refine wpAny_call (codeAny_call_function (fd:=docDef f fn.params fn.body fn.scope pm code doc) (body:=fn.body) (by have:recursionLimit=1000:=rfl;omega) (g.keep _ _ ho) hd ok.co ok.gen rfl (hc.keeps g.keep) ?_)
 rw[bindArgs_plain ok.plain rfl (by show fn.params.args.length=2;exact hlen)]
 refine wpAny_pure (ne ?_)
 obtain⟨l0,hb⟩:∃l0,bindP fn.names [.tup [.opq (.ref DB),.list w,.list q],.str t]=some l0:=by rw[hf.names];exact⟨_,rfl⟩
 have hl0:=bindP_lookup hb
 rw[hf.names] at hl0
 have ls0:l0 "state"=some (.val (.tup [.opq (.ref DB),.list w,.list q])):=by rw[hl0];rfl
 have lr0:l0 "reply"=some (.val (.str t)):=by rw[hl0];rfl
 refine newFrame (k:=false) (n:=n+1) (A:=A) ok bs g hP hY hYs (fun env=>room.deeper) hb (.cons hv (.cons ht .nil)) (fun h=>by cases h) fun env s1 kp1 fs1 hn1 hcn hsc hef=>⟨bs.nolimit.keeps (g.kp bs kp1).keep,codeAny_func ?_⟩
 obtain⟨p,hbody,hse⟩:=hf.shape
 rw[hbody]
 have hkl:∀x∈([nw,nr,"book","state","reply","error","words","found"]:List Str),env.kindOf x=some .local:=fun x hx=>by
  show env.scope.names.lookup x=_
  rw[hsc];exact hf.loc x hx
 have hkg:∀x∈(["str","parse257","parse229","error_reply","error_proto"]:List Str),env.kindOf x=some .globalImplicit:=fun x hx=>by
  show env.scope.names.lookup x=_
  rw[hsc];exact hf.glb x hx
 have G:HG C s outer env Y DB:=⟨hn1,hcn,hP,hYs,hDY,hDP,hDf,hfY,hfl,g.tab⟩
 have hbk1:BK C s1 (frameW env++Y) DB kvs:=by
  obtain⟨ob,ks,vs,ds,e1,e2,e3,e4,e5⟩:=hbk
  exact⟨ob,ks,vs,ds,kp1.heap hDP e1,e2,e3,RDs.moreL kp1 hP hn1 (fun a ha=>zapp.mp ha) e4,e5⟩
 have hx1:HX C s outer env Y DB kvs s1:=⟨kp1.kw,fun b m _ h=>NsK.kp g.tab kp1 b m h,hbk1⟩
 have hd1:Hd (A.deeper env) env outer (frameW env++Y) s1.heap:=by
  refine⟨Around.frames_deeper hfr,fun x hx=> ?_,fun b hb=> ?_,hef⟩
  ·rcases zcon.mp hx with rfl|hx
   ·obtain⟨m,hm⟩:=fs1.pre.fm.ns
    exact⟨by rw[fs1.pre.eo.kind];decide,_,m,hef,hm⟩
   ·exact(hfl.slots (NsK.kp g.tab kp1)) x hx
  ·rw[frA,List.filterMap_cons,hef] at hb
   rcases zcon.mp hb with rfl|hb
   ·exact zmL _ zmS
   ·exact zmr _ (hfY b hb)
 refine wpAny_execs_cons (wpAny_Assign_stores (ne (ldVar fs1 ls0 kD kD fun v rv=> ?_)) (by rfl) (by rfl))
 obtain⟨at',vs,m,rfl,hov,rs⟩:=rv.tup_inv
 match vs,rs with
 |[u1,u2,u3],.cons r1 (.cons r2 (.cons r3 .nil))=>
 refine ne ?_
 show wpAny C.M (A.deeper env) (assign (.Tuple [.Name "book" (p 0),.Name nw (p 1),.Name nr (p 2)] 0 (p 3)) env (.ref at')) _ NE s1
 refine wpAny_assign_Tuple fs1.pre.a.handled (isTuple_of hov) (by rfl) (by rfl) fun h' hk=> ?_
 have kpu:KP C s1 { s1 with heap:=h' }:=KP.of nL fun b o e=>hk b o (fun e'=>Nat.lt_irrefl _ (e'▸Heap.lt_size e)) e
 have fs2:=fs1.kp kpu
 have hP2:=fs1.pre.hP
 refine assignInOrder_cons (wpAny_assign_Name (fs2.assign (.inl (hkl "book" (by simp))) (RD.kp kpu hP2 r1) fun s3 kw3 fs3=> ?_))
 have kw3':KW C (·∈frameW env) { s1 with heap:=h' } s3:=kw3.mono fun b hb=>by simpa using hb
 have hZ:∀b,b∈frameW env→b∈olA []++(frameW env++Y):=fun b hb=>by simp[hb]
 refine assignInOrder_cons (wpAny_assign_Name (fs3.assign (.inl (hkl nw (by simp))) (RD.kw kw3' hP2 hZ (RD.kp kpu hP2 r2)) fun s4 kw4 fs4=> ?_))
 have kw4':KW C (·∈frameW env) s3 s4:=kw4.mono fun b hb=>by simpa using hb
 refine assignInOrder_cons (wpAny_assign_Name (fs4.assign (.inl (hkl nr (by simp))) (RD.kw kw4' hP2 hZ (RD.kw kw3' hP2 hZ (RD.kp kpu hP2 r3))) fun s5 kw5 fs5=>assignInOrder_nil ?_))
 have kw5':KW C (·∈frameW env) s4 s5:=kw5.mono fun b hb=>by simpa using hb
 have e1:=Mine.R.opq_inv r1
 subst e1
 have hx5:=(((hx1.kp G kpu).step G kw3').step G kw4').step G kw5'
 have hl5:HL (setL (setL (setL l0 "book" (.val (.opq (.ref DB)))) nw (.val (.list w))) nr (.val (.list q))) nw nr DB w q t:=by
  obtain⟨n1,n2,n3,n4,n5⟩:=hf.ne2
  refine⟨?_,?_,?_,?_⟩ <;> unfold setL
  ·rw[if_neg (Ne.symm n3),if_neg (Ne.symm n2),if_pos rfl]
  ·rw[if_neg n1,if_pos rfl]
  ·rw[if_pos rfl]
  ·rw[if_neg (Ne.symm n5),if_neg (Ne.symm n4),if_neg kD];exact lr0
 have hd5:Hd (A.deeper env) env outer (frameW env++Y) s5.heap:=by
  refine⟨hd1.fr,fun x hx=> ?_,hd1.fY,hef⟩
  rcases zcon.mp hx with rfl|hx
  ·obtain⟨m,hm⟩:=fs5.pre.fm.ns
   exact⟨by rw[fs5.pre.eo.kind];decide,_,m,hef,hm⟩
  ·obtain⟨z1,L,m,z2,z3⟩:=hfl x hx
   exact⟨z1,L,m,z2,hx5.ns L m (fun e=>hDf (e▸List.mem_filterMap.mpr ⟨x,hx,z2⟩)) z3⟩
 have h5:HS C (n+1) A env outer Y s DB nw nr kvs w q t _ s5:=⟨fs5,hx5,hd5,hl5⟩
 generalize setL (setL (setL l0 "book" (.val (.opq (.ref DB)))) nw (.val (.list w))) nr (.val (.list q))=l5 at h5
 clear hl5 hx5 hd5 fs5
 obtain⟨fp,hfp⟩:∃fp,C.fns.lookup ("parse257":Str)=some fp:=by
  cases hst with
  |name h1=>obtain⟨fp,_,_,h1,_⟩:=h1;exact⟨fp,h1⟩
  |found h1=>obtain⟨fp,_,_,h1,_⟩:=h1;exact⟨fp,h1⟩
  |reply h1=>obtain⟨fp,_,_,h1,_⟩:=h1;exact⟨fp,h1⟩
  |proto h1=>obtain⟨fp,_,_,h1,_⟩:=h1;exact⟨fp,h1⟩
 obtain⟨a,oa,pm',code',doc',hm,hoa,hda,hcr⟩:=bs.fn _ fp hfp
 refine wpAny_execs_cons (wpAny_Try_except (wpAny_execs_cons (wpAny_Return_some (triple rfl rfl rfl (ne (ldVar h5.fs h5.hl.b kD kD fun v1 r1=> ?_))))))
 have e1:=Mine.R.opq_inv r1
 subst e1
 refine wpAny_BinOp (ne (ldVar h5.fs h5.hl.w (hf.dbg nw (by simp)).1 (hf.dbg nw (by simp)).2 fun v2 r2=>one_list rfl ?_))
 refine Call_Name rfl (ne (E_global h5.fs.pre (hkg "parse257" (by simp)) hm kD ?_))
 refine callWith_function (o:=oa) (fd:=docDef "parse257" fp.params fp.body fp.scope pm' code' doc') (evalArgs_plain (spliced_cons (ne (ldVar h5.fs h5.hl.t kD kD fun u ru=>spliced_nil ⟨⟨h5.fs.pre.gr.keep _ _ hoa,hda⟩,?_⟩))))
 have p5:=h5.fs.pre
 have room5:CRoom n (A.deeper env):=p5.a.room
 have key:(∃x,PRet C r "parse257" [.str t] (.str x)∧w.length+1≤lim∧kvs'=kvs∧w'=w++[.str x]∧q'=q)∨(∃y,PExc C r "parse257" [.str t] "error_reply" y∧
   ((∃d key,PRet C r "parse229" [.str y,peerD] d∧(∀l:Loc,l nw=some (.list w)→r.E false fn.scope l ie=some (.str key))∧(∀l:Loc,l nw=some (.list w)→r.E false fn.scope l se=some (.list w'))∧kvs.length≤1000∧kvs'=storedS kvs key d∧q'=q)∨
   (∃z,PExc C r "parse229" [.str y,peerD] "error_reply" z∧3+z.length≤lim∧q.length+1≤lim∧kvs'=kvs∧w'=w∧q'=q++[.str (("no ":Str)++z)])∨
   (∃z,PExc C r "parse229" [.str y,peerD] "error_proto" z∧q.length+1≤lim∧kvs'=kvs∧w'=w∧q'=q++[.str z]))):=by
  cases hst with
  |name h1 h2=>exact .inl ⟨_,h1,h2,rfl,rfl,rfl⟩
  |found h1 h2 h3 h4 h5=>exact .inr ⟨_,h1,.inl ⟨_,_,h2,h3,h4,h5,rfl,rfl⟩⟩
  |reply h1 h2 h3 h4=>exact .inr ⟨_,h1,.inr (.inl ⟨_,h2,h3,h4,rfl,rfl,rfl⟩)⟩
  |proto h1 h2 h3=>exact .inr ⟨_,h1,.inr (.inr ⟨_,h2,h3,rfl,rfl,rfl⟩)⟩
 have hu:A.units+10<cLine:=by show A.units+10<9900;omega
 rcases key with ⟨x,⟨fp',la,lb,h1,hba,hsa⟩,hw1,rfl,rfl,rfl⟩|⟨y,⟨fp',la,lb,h1,hba,hsa⟩,hcase⟩
 ·rw[hfp] at h1;cases h1
  refine call_sound S.S hfp hm bs p5.gr p5.hP p5.hY p5.hYs room5 hba hsa (.cons ru .nil) fun v6 s6 kp6 rv6=> ?_
  have h6:=h5.kp G kp6
  refine ne (cat_one h6.fs (RD.kp kp6 p5.hP r2) rv6 hw1 fun v7 s7 kp7 rv7=>ne (ldVar (h6.kp G kp7).fs h5.hl.q (hf.dbg nr (by simp)).1 (hf.dbg nr (by simp)).2 fun v8 rv8=> ?_))
  have h7:=h6.kp G kp7
  have kp9:KP C s7 { s7 with heap:=s7.heap.push (tupO [.ref DB,v7,v8] 0) }:=KP.push (tk:=s7.toks) nL
  exact heard_end G (h7.hx.kp G kp9) (mk_tup (by simpa using h7.fs.pre.hP) (by simpa using h7.fs.pre.lt) (by simpa using rv7) (by simpa using rv8)) qq
 ·rw[hfp] at h1;cases h1
  refine call_raise S.S hfp hm bs p5.gr p5.hP p5.hY p5.hYs room5 h5.hd.fr h5.hd.fl hba hsa (.cons ru .nil) fun e t0 cl tb tk s6 F hcl hns=> ?_
  refine caught h5.fs h5.hd F hns fun s7 tb2 F7 hns7 fs7 H7=> ?_
  have hcR:cl=clR:=by have:=X.mR;rw[hcl] at this;injection this with this;injection this
  refine clause_hit (hd:= .none) X h5.fs h5.hd F7 hns7 (hkg "error_reply" (by simp)) kD hcl (by simp[hcR]) (hkl "error" (by simp)) fun s8 kw8 fs8 H8 hns8 he8 ht8=> ?_
  have kw8':KW C (fun b=>b∈frA outer∨b∈frameW env) s5 s8:=kw8.mono fun b hb=>by
   rcases hb with hb|hb
   ·rw[frA,List.filterMap_cons,hef] at hb
    rcases zcon.mp hb with hb|hb
    ·exact .inr (hb▸zmS)
    ·exact .inl hb
   ·exact .inr hb
  have hx8:=h5.hx.frames G kw8' hns8
  have le8:setL l5 "error" (.val (.opq (.ref e))) "error"=some (.val (.opq (.ref e))):=by unfold setL;rw[if_pos rfl]
  refine wpAny_execs_cons (wpAny_Assign_Name (str_error X fs8 (by show A.units+3+2<9900;omega) (hkg "str" (by simp)) le8 (by simp[hcR]) he8 ht8 ?_) (by rfl))
  refine fs8.assign (d:= .str y) (.inl (hkl "words" (by simp))) (.str y tk) fun s9 kw9 fs9=>wpAny_execs_nil ?_
  have kw9':KW C (·∈frameW env) s8 s9:=kw9.mono fun b hb=>by simpa using hb
  refine fs9.goes (hkl "error" (by simp)) fun s10 kw10 fs10=> ?_
  have hx10:=(hx8.step G kw9').step G kw10
  have hl10:HL (fun z=>if z=("error":Str) then none else setL (setL l5 "error" (.val (.opq (.ref e)))) "words" (.val (.str y)) z) nw nr DB w q t:=((h5.hl.set (hf.ne1 "error" (by simp))).set (hf.ne1 "words" (by simp))).del (hf.ne1 "error" (by simp))
  have lw10:(fun z=>if z=("error":Str) then none else setL (setL l5 "error" (.val (.opq (.ref e)))) "words" (.val (.str y)) z) "words"=some (.val (.str y)):=by
   show (if ("words":Str)="error" then none else setL (setL l5 "error" (.val (.opq (.ref e)))) "words" (.val (.str y)) "words")=_
   rw[if_neg kD]
   unfold setL
   rw[if_pos rfl]
  have hd10:Hd (A.deeper env) env outer (frameW env++Y) s10.heap:=by
   refine⟨hd1.fr,fun x hx=> ?_,hd1.fY,hef⟩
   rcases zcon.mp hx with rfl|hx
   ·obtain⟨m,hm⟩:=fs10.pre.fm.ns
    exact⟨by rw[fs10.pre.eo.kind];decide,_,m,hef,hm⟩
   ·obtain⟨z1,L,m,z2,z3⟩:=hfl x hx
    exact⟨z1,L,m,z2,hx10.ns L m (fun e=>hDf (e▸List.mem_filterMap.mpr ⟨x,hx,z2⟩)) z3⟩
  exact heard_two S hf X G ⟨fs10,hx10,hd10,hl10⟩ hsc hu lw10 hse hcase (fun _ _ h=>h) qq
end
section
variable{C:Cx}{n:Nat}{r:Ev}{k:Bool}{A B:Around}{env:Env}{Y Y' W J:List Addr}{OL N:List (Str×Addr)}{l l':LocB}{s s' s'' s0 s1 s2 s3:Shared}{Z Z':Addr→Prop}
abbrev HSt:=List (Str×D)×List D×List D
structure HI(C:Cx)(af DB:Addr)(fo:Obj)(outer:List Env)(st:Nat→HSt)(s0:Shared)(Y:List Addr)(j:Nat)(v:Value)(s:Shared):Prop where
 v:RD C s.heap Y v (.tup [.opq (.ref DB),.list (st j).2.1,.list (st j).2.2])
 bk:BK C s Y DB (st j).1
 f:s.heap.get? af=some fo
 fY:∀b∈frA outer,b∈Y
 dY:DB∈Y
 ns:∀b∈frA outer,∀m,s0.heap.Ns b m→s.heap.Ns b m
 db:∃o,s.heap.get? DB=some o
theorem BK.weak{DB:Addr}{kvs:List (Str×D)}(b:BK C s Y DB kvs)(hd:∀o,s.heap.get? DB=some o→s'.heap.get? DB=some o)(hr:∀vs ds,RDs C s.heap Y vs ds→RDs C s'.heap Y' vs ds):BK C s' Y' DB kvs:=by
 obtain⟨o,ks,vs,ds,e1,e2,e3,e4,e5⟩:=b
 exact⟨o,ks,vs,ds,hd o e1,e2,e3,hr _ _ e4,e5⟩
theorem heard_fold(S:Snd C n r){f:Str}{fn:Fn}{nw nr:Str}{ie se:Expr}(hf:HrdFn fn nw nr ie se){clR clP:Addr}(X:ExcK C clR clP)(bs:Base C){af:Addr}{o:Obj}{pm code doc:Value}(ho:C.g0.get? af=some o)(hd:o.data= .func (docDef f fn.params fn.body fn.scope pm code doc))(hc:C.g0.CodeRec code f)
  {outer:List Env} (g0:Gr C s0) (hP0:C.P∈Y') (aok:∀env,AOk (n+2) (A.deeper env)) (hfr:A.frames=some outer) (hfl:FrL s0.heap outer) (hfY:∀b∈frA outer,b∈Y') {DB:Addr} (hDY:DB∈Y') (hDP:DB≠C.P) (hDf:DB∉frA outer) (hDe:∃o,s0.heap.get? DB=some o) (hfP:af≠C.P)
  {st:Nat→HSt} {its:List D} (hst:∀j d,its[j]? =some d→∃t,d= .str t∧HStep C r fn nw ie se (st j) t (st (j+1))):
  FoldC C (n+2) A af (HI C af DB o outer st s0) its (fun b=>b=DB∨b∈frA outer) s0 Y' where
 zf:=fun b h=>h.elim (fun h=>h▸hDY) (hfY b)
 fobj:=fun Y j v s h=>⟨o,_,h.f,hd⟩
 call:=fun envR Y j va vd d s Q ha g hP hY hYs hY0 hI hj hrd hk hfe hlY hln hns q=>by
  obtain⟨t,rfl,hs⟩:=hst j d hj
  have e1:st j=((st j).1,(st j).2.1,(st j).2.2):=rfl
  have e2:st (j+1)=((st (j+1)).1,(st (j+1)).2.1,(st (j+1)).2.2):=rfl
  rw[e1,e2] at hs
  have hDl:DB≠envR.locals:=fun e=>by obtain⟨oo,h⟩:=hDe;rw[e,hln] at h;cases h
  have hmem:∀b,b∈frA (envR::outer)↔b=envR.locals∨b∈frA outer:=fun b=>by rw[frA,List.filterMap_cons,hfe];exact List.mem_cons
  refine heard_call S hf X bs ho hd hc (outer:=envR::outer) g hP hY hYs ha (Around.frames_deeper hfr) (fun x hx=> ?_) (fun b hb=> ?_) hI.dY hDP (fun hm=> ?_) hI.v hrd hI.bk hs fun v' s' kw ns rv bk=> ?_
  ·rcases zcon.mp hx with rfl|hx
   ·obtain⟨m,hm⟩:=hns
    exact⟨by rw[hk];decide,_,m,hfe,hm⟩
   ·obtain⟨z1,L,m,z2,z3⟩:=hfl x hx
    exact⟨z1,L,m,z2,hI.ns L (List.mem_filterMap.mpr ⟨x,hx,z2⟩) m z3⟩
  ·rcases (hmem b).mp hb with rfl|hb
   ·exact hlY
   ·exact hI.fY b hb
  ·rcases (hmem DB).mp hm with e|hm
   ·exact hDl e
   ·exact hDf hm
  ·have nf:¬(af=DB∨af∈frA (envR::outer)):=fun hz=>by
    have hfn:∀m,¬s.heap.Ns af m:=fun m h=>by
     obtain⟨oo,es,ep,h1,h2,_⟩:=h
     rw[hI.f] at h1;cases h1;rw[hd] at h2;cases h2
    rcases hz with hz|hz
    ·obtain⟨ob,ks,vs,ds,b1,⟨es,ep,_,b2,_⟩,_⟩:=hI.bk
     rw[←hz,hI.f] at b1;cases b1;rw[hd] at b2;cases b2
    ·rcases (hmem af).mp hz with hz|hz
     ·obtain⟨m,hm⟩:=hns
      exact hfn m (hz▸hm)
     ·obtain⟨m,hm⟩:=hfl.mem hz
      exact hfn m (hI.ns af hz m hm)
   refine q v' s' (kw.mono fun b hb=> ?_) (fun m hm=>ns _ m (Ne.symm hDl) hm) ⟨rv,bk,kw.heap hfP nf hI.f,hI.fY,hI.dY,fun b hb m hm=>ns b m (fun e=>hDf (e▸hb)) (hI.ns b hb m hm),kw.exs g.tab hI.db⟩
   rcases hb with hb|hb
   ·exact .inl (.inl hb)
   ·rcases (hmem b).mp hb with hb|hb
    ·exact .inr hb
    ·exact .inl (.inr hb)
 kw:=fun Y j v s s' Z hI kw hZ hP t=>by
  have hnz:∀b,(∃o,s0.heap.get? b=some o)→¬Z b:=fun b ⟨oo,h⟩ hz=>by rw[(hZ b hz).2] at h;cases h
  have hZY:∀b,Z b→b∈Y:=fun b hz=>(hZ b hz).1
  refine⟨RD.kw kw hP hZY hI.v,hI.bk.kw kw hP hZY hDP (hnz _ hDe),kw.heap hfP (hnz _ ⟨o,g0.keep _ _ ho⟩) hI.f,hI.fY,hI.dY,fun b hb m hm=> ?_,kw.exs t hI.db⟩
  have h1:=hI.ns b hb m hm
  obtain⟨oo,es,ep,h2,_⟩:=id hm
  exact h1.at fun o' e=>kw.heap (tab_no_ns t h1) (hnz b ⟨oo,h2⟩) e
 more:=fun Y Y2 J j v s s' hI kp hn he h1 h2 hP=>by
  refine⟨?_,hI.bk.weak (fun o' e=>kp.heap hDP e) fun vs ds h=>RDs.moreL kp hP hn h1 h,kp.heap hfP hI.f,fun b hb=>h2 b (hI.fY b hb),h2 _ hI.dY,fun b hb m hm=> ?_,?_⟩
  ·have:=RDs.moreL kp hP hn h1 (.cons hI.v .nil)
   cases this with|cons h _=>exact h
  ·have h1:=hI.ns b hb m hm
   refine h1.at fun o' e=>kp.heap (fun e'=> ?_) e
   exact tab_no_ns g0.tab hm e'
  ·obtain⟨oo,h⟩:=hI.db
   exact⟨oo,kp.heap hDP h⟩
 last:=fun Y J j v s s' hI kj hJ hY0 hP=>by
  have hsub:∀a∈Y,a∈J++Y:=fun a ha=>zmr _ ha
  have hJY:∀a∈J,a∈J++Y:=fun a ha=>zmL _ ha
  have hnj:∀b,(∃o,s0.heap.get? b=some o)→b∉J:=fun b ⟨oo,h⟩ hz=>by rw[(hJ b hz).1] at h;cases h
  refine⟨?_,hI.bk.weak (fun o' e=>kj.heap (hnj _ hDe) e) fun vs ds h=>RDs.lastJ kj hsub hJY h,kj.heap (hnj _ ⟨o,g0.keep _ _ ho⟩) hI.f,fun b hb=>hY0 b (hfY b hb),hY0 _ hDY,fun b hb m hm=> ?_,?_⟩
  ·have:=RDs.lastJ kj hsub hJY (.cons hI.v .nil)
   cases this with|cons h _=>exact h
  ·have h1:=hI.ns b hb m hm
   obtain⟨oo,es,ep,h2,_⟩:=id hm
   exact h1.at fun o' e=>kj.heap (hnj b ⟨oo,h2⟩) e
  ·obtain⟨oo,h⟩:=hI.db
   exact⟨oo,kj.heap (hnj _ hDe) h⟩
 sub:=fun Y Y2 j v s hI h1 h2=>⟨Mine.R.mono (view_sub h1) hI.v,hI.bk.weak (fun _ e=>e) fun vs ds h=>Rs.mono (view_sub h1) h,hI.f,fun b hb=>h2 b (hfY b hb),h2 _ hDY,hI.ns,hI.db⟩
end
section
variable{C:Cx}{n m:Nat}{r r':Ev}{k:Bool}{A B:Around}{env:Env}{Y Y' W J:List Addr}{OL N:List (Str×Addr)}{l l':LocB}{s s' s'' s0 s1 s2 s3:Shared}{Z Z':Addr→Prop}
theorem told_stmt(S:Snd C n r)(S':SE C m r'){f x:Str}{fn:Fn}{nw nr:Str}{ie se te:Expr}(hf:HrdFn fn nw nr ie se){clR clP:Addr}(X:ExcK C clR clP){af:Addr}{o:Obj}{pm code doc:Value}(ho:C.g0.get? af=some o)(hd:o.data= .func (docDef f fn.params fn.body fn.scope pm code doc))(hc:C.g0.CodeRec code f)(hmf:C.mg f=some (.ref af))(hdb:(f==("__debug__":Str))=false)
  (fs:FS C m k A env Y [] l s) (room:CRoom (n+2) A) (hfr:A.frames=some [env]) (hef:env.frame=some env.locals) (hx:env.kindOf x=some .local∨env.kindOf x=some .cell) (hkf:env.kindOf f=some .globalImplicit) (hkr:env.kindOf "reduce"=some .globalImplicit)
  {its:List D} {st:Nat→HSt} (ht:r'.E k env.scope (purL l) te=some (.list its)) (hte:isStarred te=false) (h0:st 0=([],[],[]))
  (hst:∀j d,its[j]? =some d→∃t,d= .str t∧HStep C r fn nw ie se (st j) t (st (j+1))) {p0 p1 p2 p3 p4 p5 p6 p7 p8:Pos} {Q:Flow→Shared→Prop} {E:Value→Shared→Prop}
  (q:∀s',KW C (ZO [] env) s s'→FS C m k A env Y [] (setL l x (.val (.tup [.dictS (st its.length).1,.list (st its.length).2.1,.list (st its.length).2.2]))) s'→Q .next s'):
  wpAny C.M A (exec (.Assign [.Name x p0] (.Call (.Name "reduce" p1) [.Name f p2,te,.Tuple [.Dict [] [] p3,.List [] p4,.List [] p5] 0 p6] [] p7) p8) env) Q E s:=by
 have bs:=fs.pre.bs
 obtain⟨fnr,ar,orr,pmr,coder,docr,dt,ai,odt,nt,oi,rf,hmr,hor,hdr,hcr,_⟩:=bs.red
 have t0:=fs.pre.gr.tab
 refine wpAny_Assign_Name ?_ (by rfl)
 refine Call_Name rfl (ne (E_global fs.pre hkr hmr kD ?_))
 refine callWith_function (o:=orr) (fd:={ docDef "reduce" fnr.params fnr.body fnr.scope pmr coder docr with defaults:= .ref dt }) (evalArgs_plain (spliced_cons (ne (E_global fs.pre hkf hmf hdb ?_))))
 refine args_cons (ne (S'.at fs.pre ht fun sv s1 kp1 p1 rv=> ?_)) (starEach_plain hte)
 have fs1:=fs.kp kp1
 refine args_cons (triple rfl rfl rfl (wpAny_Dict_empty ?_))
 generalize hs2:({ s1 with heap:=s1.heap.push { cls:= .type "dict",data:= .dict #[] } }:Shared)=s2
 generalize hDB:s1.heap.objs.size=DB
 have hDn:s1.heap.get? DB=none:=hDB▸newAddr _
 have kp2:KP C s1 s2:=by rw[←hs2];exact KP.push (tk:=s1.toks) nL
 have hD2:s2.heap.get? DB=some { cls:= .type "dict",data:= .dict #[] }:=by rw[←hs2,←hDB];exact Heap.get?_push_size _ rfl
 have hDY:DB∉Y:=fun hm=>by obtain⟨oo,e⟩:=fs1.pre.hYs DB (by simpa using hm);rw[hDn] at e;cases e
 have hDP:DB≠C.P:=fun e=>hDY (e▸fs.hP)
 have fs2:FS C m k A env ([DB]++Y) [] l s2:=fs1.moreJ kp2 (fun a ha=>by simp at ha;subst ha;exact hDn) fun a ha=>by simp at ha;subst ha;exact⟨_,hD2⟩
 refine wpAny_List (args_nil ⟨by simp,?_⟩)
 generalize hs3:({ s2 with heap:=s2.heap.push { cls:= .type "list",data:= .seq ([]:List Value).toArray } }:Shared)=s3
 have kp3:KP C s2 s3:=by rw[←hs3];exact KP.push (tk:=s2.toks) nL
 have r3:RD C s3.heap ([DB]++Y) (.ref s2.heap.objs.size) (.list []):=by
  rw[←hs3]
  exact .list (n:=0) (new_view (tk:=s2.toks) (o:=lstO [] 0) (by simpa using fs2.pre.lt) rfl) .nil
 have fs3:=fs2.kp kp3
 refine wpAny_List (args_nil ⟨by simp,?_⟩)
 generalize hs4:({ s3 with heap:=s3.heap.push { cls:= .type "list",data:= .seq ([]:List Value).toArray } }:Shared)=s4
 have kp4:KP C s3 s4:=by rw[←hs4];exact KP.push (tk:=s3.toks) nL
 have r4:RD C s4.heap ([DB]++Y) (.ref s3.heap.objs.size) (.list []):=by
  rw[←hs4]
  exact .list (n:=0) (new_view (tk:=s3.toks) (o:=lstO [] 0) (by simpa using fs3.pre.lt) rfl) .nil
 have fs4:=fs3.kp kp4
 have kp5:KP C s4 { s4 with heap:=s4.heap.push (tupO [.ref DB,.ref s2.heap.objs.size,.ref s3.heap.objs.size] 0) }:=KP.push (tk:=s4.toks) nL
 have r5:=mk_tup (s3:=s4) (DB:=DB) (Yf:=[DB]++Y) (by simpa using fs4.pre.hP) (by simpa using fs4.pre.lt) (RD.kp kp4 (by simpa using fs3.pre.hP) r3) r4
 have hv5:(s4.heap.push (tupO [.ref DB,.ref s2.heap.objs.size,.ref s3.heap.objs.size] 0)).get? s4.heap.objs.size=some (tupO [.ref DB,.ref s2.heap.objs.size,.ref s3.heap.objs.size] 0):=Heap.get?_push_size _ rfl
 have fs5:=fs4.kp kp5
 refine args_nil ⟨⟨fs5.pre.gr.keep _ _ hor,hdr⟩,?_⟩
 show wpAny C.M A (call (.ref ar) [.ref af,sv,.ref s4.heap.objs.size]) _ E { s4 with heap:=s4.heap.push (tupO [.ref DB,.ref s2.heap.objs.size,.ref s3.heap.objs.size] 0) }
 generalize hs5:({ s4 with heap:=s4.heap.push (tupO [.ref DB,.ref s2.heap.objs.size,.ref s3.heap.objs.size] 0) }:Shared)=s5 at kp5 fs5
 rw[show s4.heap.push (tupO [.ref DB,.ref s2.heap.objs.size,.ref s3.heap.objs.size] 0)=s5.heap by rw[←hs5]] at r5 hv5
 have kp25:KP C s2 s5:=(kp3.trans kp4).trans kp5
 have hD5:=kp25.heap hDP hD2
 have pp5:Pre C m k A env ([DB]++Y) (purL l) s5:=by have:=fs5.pre;simpa using this
 have hfP:af≠C.P:=fun e=>by rw[e,bs.hP] at ho;cases ho
 have hlY:env.locals∈Y:=fs.wY _ zmS
 have hDl:DB≠env.locals:=fun e=>hDY (e▸hlY)
 have hfrA:frA [env]=[env.locals]:=by rw[frA,List.filterMap_cons,hef];rfl
 have fc:=heard_fold (outer:=[env]) (A:=A) (s0:=s5) (Y':=[DB]++Y) S hf X bs ho hd hc pp5.gr pp5.hP (fun env=>room.deeper) hfr (fun x hx=>by
  simp at hx;subst hx
  obtain⟨mm,hmm⟩:=pp5.fm.ns
  exact⟨by rw[fs.pre.eo.kind];decide,_,mm,hef,hmm⟩) (fun b hb=>by rw[hfrA] at hb;simp at hb;subst hb;exact zmr _ hlY) (DB:=DB) (by simp) hDP (by rw[hfrA];simpa using hDl) ⟨_,hD5⟩ hfP hst
 have hbk:BK C s5 ([DB]++Y) DB (st 0).1:=by
  obtain⟨od,hod,hodd⟩:=Heap.dictOf_iff.mp (Heap.DictOf.new (knd:=strKind C.prog C.w) s1.heap)
  have hod2:s2.heap.get? DB=some od:=by rw[←hs2,←hDB];exact hod
  exact⟨od,[],[],[],kp25.heap hDP hod2,hodd,rfl,.nil,by rw[h0];rfl⟩
 have hsv:RD C s5.heap ([DB]++Y) sv (.list its):=by
  have h2:RDs C s2.heap ([DB]++Y) [sv] [.list its]:=RDs.moreL (J:=[DB]) kp2 fs.hP (fun a ha=>by simp at ha;subst ha;exact hDn) (fun a ha=>zapp.mp ha) (.cons (by simpa using rv) .nil)
  cases h2 with|cons h2 _=>exact RD.kp kp25 pp5.hP h2
 refine reduce_sound (n:=n+2) (Y:=[DB]++Y) (its:=its) (ds:=its) (v0:= .ref s4.heap.objs.size) bs pp5.gr pp5.hP pp5.hY pp5.hYs hmr room fc ⟨by rw[h0];exact r5,hbk,pp5.gr.keep _ _ ho,fun b hb=>by rw[hfrA] at hb;simp at hb;subst hb;exact zmr _ hlY,by simp,fun _ _ _ h=>h,⟨_,hD5⟩⟩ hsv (.inl ⟨rfl,rfl,.inl ⟨_,_,rfl,hv5,.inr rfl⟩⟩) fun v6 s6 kw6 hI6=> ?_
 have fs5':FS C m k A env ([DB]++Y) [] l s5:=fs5
 have fs6:FS C m k A env ([DB]++Y) [] l s6:=fs5'.out' kw6 (fun b hb=>by
  rcases hb with hb|hb
  ·simp[hb]
  ·rw[hfrA] at hb;simp at hb;subst hb;exact zmr _ hlY) (fun _=>hI6.ns env.locals (by rw[hfrA];simp)) fun p hp hz=>by
  rcases hz with hz|hz
  ·exact hDY (hz▸fs.cY p hp)
  ·rw[hfrA] at hz;simp at hz;exact fs.pre.fm.ne hp hz
 have fs7:FS C m k A env Y [] l s6:=fs6.lastJ (KJ.refl s6) (fun a ha=>by simp at ha;subst ha;exact hDY) fs.hP fs.cY fs.wY
 have hsub:∀a∈Y,a∈[DB]++Y:=fun a ha=>zmr _ ha
 have rt:RD C s6.heap Y v6 (.tup [.dictS (st its.length).1,.list (st its.length).2.1,.list (st its.length).2.2]):=by
  obtain⟨at',vs,mm,rfl,hov,rs⟩:=hI6.v.tup_inv
  obtain⟨hov1,hov2⟩:=view_get hov
  match vs,rs with
  |[u1,u2,u3],.cons r1 (.cons r2 (.cons r3 .nil))=>
  have e1:=Mine.R.opq_inv r1
  subst e1
  obtain⟨od,ks,ws,ds,b1,b2,b3,b4,b5⟩:=hI6.bk
  rw[b5]
  refine .tup (view_of hov1 fun h=>hov2 (hsub _ h)) (.cons (.dictS (view_of b1 hDY) b2 b3 (Rs.mono (view_sub hsub) b4) fun e=> ?_) (.cons (Mine.R.mono (view_sub hsub) r2) (.cons (Mine.R.mono (view_sub hsub) r3) .nil)))
  obtain⟨oo,hoo⟩:=Option.isSome_iff_exists.mp bs.sys
  have:=fs1.pre.gr.keep _ oo hoo
  rw[←e,hDn] at this;cases this
 refine ne (fs7.assign hx (by simpa using rt) fun s8 kw8 fs8=>q s8 ?_ fs8)
 have kws:KW C (ZO [] env) s s6:=(KP.kw ((kp1.trans kp2).trans kp25) (Z:=ZO [] env)).transNew kw6 fun b hb=>by
  rcases hb with hb|hb
  ·exact .inr (hb▸newIn kp1.kw t0 hDn (Z:=fun _=>False))
  ·rw[hfrA] at hb;simp at hb;subst hb;exact .inl (zmr _ zmS)
 exact kws.trans kw8
end
section
variable{C:Cx}{n:Nat}{r:Ev}{k:Bool}{A:Around}{env:Env}{Y W:List Addr}{l:Loc}{s s' s'' s1:Shared}
abbrev RP(C:Cx)(vs:List Value)(ds:List D):Prop:=Rs C.prog C.w (fun _=>none) vs ds
theorem rp_strs:∀{H:HV} {vs:List Value} {ds:List D} {xs:List Str},Rs C.prog C.w H vs ds→strs? ds=some xs→RP C vs ds
 |_,_,_,_,.nil,_=> .nil
 |_,_,d::ds,xs,.cons h r,e=>by
  cases d with
  |str x=>
   obtain⟨ys,h1,h2⟩:=Option.map_eq_some_iff.mp (show (strs? ds).map (x::·)=some xs from e)
   obtain⟨t,rfl⟩:=h.str_inv
   exact .cons (.str x t) (rp_strs r h1)
  |_=>cases e
inductive LL (C:Cx) (h:Heap):List Addr→List D→Prop
 |nil:LL C h [] []
 |cons {a:Addr} {ws:List Value} {m:Nat} {ds:List D} {hs:List Addr} {a0:List D}:h.get? a=some (lstO ws m)→RP C ws ds→LL C h hs a0→LL C h (a::hs) (.list ds::a0)
theorem LL.keep{h h':Heap}:∀{hs:List Addr} {a0:List D},LL C h hs a0→(∀a∈hs,∀o,h.get? a=some o→h'.get? a=some o)→LL C h' hs a0
 |_,_,.nil,_=> .nil
 |_,_,.cons e r t,k=> .cons (k _ zmS _ e) r (LL.keep t fun a ha=>k a (zmC _ ha))
theorem LL.snoc{h:Heap}{a:Addr}{ws:List Value}{m:Nat}{ds:List D}(e:h.get? a=some (lstO ws m))(r:RP C ws ds):∀{hs:List Addr} {a0:List D},LL C h hs a0→LL C h (hs++[a]) (a0++[.list ds])
 |_,_,.nil=> .cons e r .nil
 |_,_,.cons e' r' t=> .cons e' r' (LL.snoc e r t)
theorem LL.ex{h:Heap}:∀{hs:List Addr} {a0:List D},LL C h hs a0→∀a∈hs,∃o,h.get? a=some o
 |_,_,.nil,a,ha=>nomatch ha
 |_,_,.cons e r t,a,ha=>by
  rcases zcon.mp ha with rfl|ha
  ·exact⟨_,e⟩
  ·exact LL.ex t a ha
theorem LL.append{h:Heap}{hs':List Addr}{b0:List D}(y:LL C h hs' b0):∀{hs:List Addr} {a0:List D},LL C h hs a0→LL C h (hs++hs') (a0++b0)
 |_,_,.nil=>y
 |_,_,.cons e r t=> .cons e r (LL.append y t)
def AccFr(C:Cx)(DD:Addr)(Y:List Addr)(h:Heap)(a0:List D):Prop:=∃(hs:List Addr) (m:Nat),h.get? DD=some (lstO (hs.map .ref) m)∧LL C h hs a0∧hs.Pairwise (·<·)∧∀a∈hs,DD<a∧a∉Y
theorem accFr(DD:Addr):AccS DD (AccFr C DD) where
 frame:=fun Y h h' a0 ⟨hs,m,e,ll,pw,al⟩ k1 k2=>⟨hs,m,k1 _ e,ll.keep fun a ha o e=>k2 a o (al a ha).2 e,pw,al⟩
 more:=fun Y h h' a0 I ⟨hs,m,e,ll,pw,al⟩ hI k=>⟨hs,m,k _ _ e,ll.keep fun a ha o e=>k a o e,pw,fun a ha=>⟨(al a ha).1,fun hm=>by
  rcases zcon.mp hm with rfl|hm
  ·obtain⟨o,e'⟩:=ll.ex _ ha
   rw[hI] at e';cases e'
  ·exact(al a ha).2 hm⟩⟩
 sub:=fun Y Y' h a0 hs' ⟨hs,m,e,ll,pw,al⟩=>⟨hs,m,e,ll,pw,fun a ha=>⟨(al a ha).1,fun hm=>(al a ha).2 (hs' a hm)⟩⟩
def FreshE(C:Cx)(n:Nat)(k:Bool)(A:Around)(ce:Env)(elt:Expr)(emitD:Loc→Option D):Prop:=
 ∀Y l d s (Q:Value→Shared→Prop),emitD l=some d→Pre C n k A ce Y l s→
  (∀a ws m ds s',KP C s s'→d= .list ds→(∀b,(∃o,s.heap.get? b=some o)→b<a)→s'.heap.get? a=some (lstO ws m)→RP C ws ds→Q (.ref a) s')→wpAny C.M A (eval elt ce) Q NE s
theorem emitFr{ce:Env}{DD:Addr}{elt:Expr}{emitD:Loc→Option D}(F:FreshE C n k A ce elt emitD):EmitOk C n k A ce DD (AccFr C DD) emitD (do let _←call (.builtin "list.append") [.ref DD,←eval elt ce]):=by
 intro Y l d s a0 Q hd p own hDY hacc hlen q
 refine wpAny_bind (F Y l d s _ hd p fun a ws m ds s1 kp hds hlt ho hr=> ?_)
 subst hds
 obtain⟨hs,m0,h1,ll,pw,al⟩:=hacc
 have hDP:DD≠C.P:=own.ne DD (by simp)
 have h1':=kp.heap hDP h1
 have hPY:=p.hP
 have nP:∀b,b∉Y→b≠C.P:=fun b hb e=>hb (e▸hPY)
 have ll1:LL C s1.heap hs a0:=ll.keep fun b hb o e=>kp.heap (nP b (al b hb).2) e
 have hl:hs.length=a0.length:=by
  clear h1 h1' pw al ll1 hlen q
  induction ll with
  |nil=>rfl
  |cons _ _ _ ih=>simp[ih]
 have own1:=own.kw p.gr.tab (KP.kw kp (Z:=fun _=>False))
 refine wpAny_bind (wpAny_list_append_plain (items:=(hs.map Value.ref).toArray) ⟨m0,h1'⟩ (fun h' hp hsb=> ?_) (by
  have:lim=1000000:=rfl
  exact znT (by simp;omega:(hs.map Value.ref).toArray.size≤1000000) kD))
 obtain⟨m',hp⟩:=hp
 have kw:KW C (·=DD) s1 { s1 with heap:=h' }:=KW.one nL rfl hDP (own1.code DD (by simp)) (fun b o hb e=>by rw[hsb.2 b hb];exact e) ⟨_,hp⟩
 have hDa:DD<a:=hlt DD ⟨_,h1⟩
 refine wpAny_pure (q _ ((KP.kw kp).trans kw) ⟨hs++[a],m',?_,?_,?_,fun b hb=> ?_⟩)
 ·have:((hs.map Value.ref).toArray.push (.ref a))=((hs++[a]).map Value.ref).toArray:=by simp
  rw[this] at hp
  exact hp
 ·refine LL.snoc (m:=m) ?_ hr (ll1.keep fun b hb o e=> ?_)
  ·show h'.get? a=_
   rw[hsb.2 a (Nat.ne_of_gt hDa)];exact ho
  ·show h'.get? b=_
   rw[hsb.2 b (Nat.ne_of_gt (al b hb).1)];exact e
 ·refine List.pairwise_append.mpr ⟨pw,List.pairwise_singleton _ _,fun b hb c hc=> ?_⟩
  simp at hc;subst hc
  exact hlt b (ll.ex b hb)
 ·rcases zapp.mp hb with hb|hb
  ·exact al b hb
  ·simp at hb;subst hb
   exact⟨hDa,fun hm=>Nat.lt_irrefl _ (hlt _ (p.hYs _ hm))⟩
end
def strL:D→Option D
 | .list ds=>if (strs? ds).isSome∧ds.length≤lim then some (.list ds) else none
 |_=>none
section
variable{C:Cx}{n:Nat}{r:Ev}{k:Bool}{A:Around}{env:Env}{Y W:List Addr}{l:Loc}{s s' s'' s1:Shared}
variable{csc:Scope}{e:Expr}{g:Comprehension}{gs:List Comprehension}{newAcc:Sem Value}{emitD:Loc→Option D}{its out:List D}{d dd:D}{o0:Obj}{AccF:Addr→List Addr→Heap→List D→Prop}{emit:Addr→Env→Sem Unit}
theorem fresh_list(S:SE C n r){ce:Env}{p1 p2:Pos}(hk:ce.kindOf "list"=some .globalImplicit)(hst:isStarred e=false):FreshE C n k A ce (.Call (.Name "list" p1) [e] [] p2) (fun l'=>(r.E k ce.scope l' e).bind strL):=by
 intro Y l d s Q hd p q
 obtain⟨x,h1,h2⟩:=zbs.mp hd
 cases x with
 |list ds=>
  have h2:(if (strs? ds).isSome∧ds.length≤lim then some (D.list ds) else none)=some d:=h2
  split at h2
  ·rename_i hc
   cases h2
   obtain⟨xs,hxs⟩:=Option.isSome_iff_exists.mp hc.1
   refine Call_Name rfl (E_builtin (v:= .type "list") p hk kD boot_list' kD ?_)
   rw[starEach_plain hst]
   refine PyProof.Rows.callWith_type (by rfl) (evalArgs_plain (spliced_cons (S.at p h1 fun v s1 k1 p1 r1=>spliced_nil ?_)))
   obtain⟨a,vs,m,rfl,ho,rs⟩:=r1.list_inv
   refine call_list_seq a (T:="list") (.inl rfl) (view_get ho).1 rfl rfl (fun h' c' hk' hn=> ?_) (by simp only[List.size_toArray,rs.length];exact sz hc.2)
   have kk:KP C s1 { s1 with heap:=h' }:=KP.of nL hk'
   refine q _ vs c' ds _ (k1.trans kk) rfl (fun b ⟨o,hb⟩=> ?_) hn (rp_strs rs hxs)
   obtain⟨o',hb'⟩:=k1.some p.gr.tab ⟨o,hb⟩
   exact Heap.lt_size hb'
  ·cases h2
 |_=>cases h2
theorem comp_coreA{pos:Pos}{use:Option (Value→Sem Unit)}{Q:Value→Shared→Prop}(S:SE C n r)(a1:AOk (n+1) A)(K:CKind C n k A env.scope csc e (g::gs) newAcc emitD out dd o0 AccF emit)(p:Pre C n k A env Y l s)
  (h1:r.E k env.scope l g.iter=some d) (h2:iterD d=some its) (ok:okComp env.scope csc (g::gs)=true) (h:comp r k (ownSc env.scope csc) emitD (g::gs) (compLoc csc l) its=some out) (hlen:out.length≤lim)
  (q:∀DD L s',KP C s s'→s.heap.get? L=none→¬CodeAt C s'.heap L→(∃m,s'.heap.Ns L m)→(∀a,DD≤a→s.heap.get? a=none)→DD∉L::Y→AccF DD (L::Y) s'.heap out→compPost C.M A NE use Q (.ref DD) L (.ok .next) s'):
  wpAny C.M A (comprehension e csc env pos newAcc false (eval g.iter env) use) Q NE s:=by
 have oc:=okC ok
 refine wpAny_comprehension_free (g:=g) (gs:=gs) K.cl (notFolded (oc.set g zmS) env) (closureFor_eq fun q hq hf=>p.eo.cells q.1 (oc.free q hq hf)) oc.kind (fun x hx hl=>lookup_of_nodup oc.nodup (hl▸hx)) ?_
 refine S.at p h1 fun v s1 kp1 p1 rv=> ?_
 refine iter_sound p1.a.handled p1.lt rv h2 fun h' hk it=> ?_
 refine K.new _ _ ?_
 obtain⟨oi,hoi,_⟩:=it.obj
 have hlt:s1.heap.objs.size<h'.objs.size:=Heap.lt_size hoi
 have hn:s1.heap.get? s1.heap.objs.size=none:=newAddr _
 have hD':h'.get? h'.objs.size=none:=newAddr _
 have hD:s1.heap.get? h'.objs.size=none:=none_of fun⟨o,e⟩=>by rw[hk _ o e] at hD';cases hD'
 have it':ItR C A (h'.objs.size::s1.heap.objs.size::Y) s1.heap.objs.size its (h'.push o0):=it.more (Z:=[h'.objs.size]) (fun b hb=>by simp at hb;subst hb;exact hD') fun b o e=>zpO _ e
 have hod:(h'.push o0).get? h'.objs.size=some o0:=Heap.get?_push_size _ K.live
 refine comp_run (DD:=h'.objs.size) (I:=s1.heap.objs.size) (Acc:=AccF h'.objs.size) S a1 oc (K.is h'.objs.size) (K.acc _) (fun ce hsc=>K.em _ ce hsc) p1 (fun b o e=>zpO _ (hk b o e)) hn hD (Nat.ne_of_lt hlt) ⟨_,hod⟩ it' (K.nil _ _ _ hod) h hlen fun L h4 tk s' Z ht k4 kl hZ hL hLc hLD hns hac=> ?_
 have kp:KP C s s':=kpNew kp1 p.gr.tab ht k4 kl hn hZ hL hLc (Heap.SameBut.refl ..)
 have hDY:h'.objs.size∉L::Y:=fun hm=>by
  rcases zcon.mp hm with e|hm
  ·exact hLD e.symm
  ·obtain⟨o,e⟩:=p1.hYs _ hm;rw[hD] at e;cases e
 have hLs:s.heap.get? L=none:=none_of fun ho=>by
  obtain⟨o,e⟩:=kp1.some p.gr.tab ho
  rw[hL] at e;cases e
 refine q _ L s' kp hLs hLc hns (fun a ha=>none_of fun ho=> ?_) hDY hac
 obtain⟨o,e⟩:=kp1.some p.gr.tab ho
 exact absurd (Heap.lt_size (hk a o e)) (Nat.not_lt.mpr ha)
theorem RP.rs{H:HV}{vs:List Value}{ds:List D}(h:RP C vs ds):Rs C.prog C.w H vs ds:=Rs.mono (fun a o e=>by cases e) h
theorem LL.rs{h:Heap}{Y:List Addr}:∀{hs:List Addr} {a0:List D},LL C h hs a0→(∀a∈hs,a∉Y)→RDs C h Y (hs.map .ref) a0
 |_,_,.nil,_=> .nil
 |_,_,.cons e r t,k=> .cons (.list (view_of e (k _ zmS)) (RP.rs r)) (LL.rs t fun a ha=>k a (zmC _ ha))
theorem fresh_comp{elt:Expr}{pos:Pos}{Q:Value→Shared→Prop}(S:SE C n r)(a1:AOk (n+1) A)(F:∀ce,ce.scope=ownSc env.scope csc→FreshE C n k A ce elt emitD)(p:Pre C n k A env Y l s)
  (h1:r.E k env.scope l g.iter=some d) (h2:iterD d=some its) (ok:okComp env.scope csc (g::gs)=true) (h:comp r k (ownSc env.scope csc) emitD (g::gs) (compLoc csc l) its=some out) (hlen:out.length≤lim)
  (q:∀DD hs m s',KP C s s'→s'.heap.get? DD=some (lstO (hs.map .ref) m)→LL C s'.heap hs out→(∀a∈DD::hs,s.heap.get? a=none)→(DD::hs).Pairwise (·<·)→Q (.ref DD) s'):
  wpAny C.M A (eval (.ListComp elt (g::gs) csc pos) env) Q NE s:=by
 have oc:=okC ok
 have h0:g.is_async=0:=oc.sync g zmS
 rw[arm_eval_ListComp]
 show wpAny C.M A (comprehension (.ListComp elt (g::gs) csc pos) csc env (firstIterPos (g::gs) pos) (newList []) (firstAsync (g::gs)) (firstIter (g::gs) env)) Q NE s
 have hfa:firstAsync (g::gs)=false:=by cases g;simp only at h0;subst h0;rfl
 have hfi:firstIter (g::gs) env=eval g.iter env:=by cases g;rfl
 rw[hfa,hfi]
 have K:CKind C n k A env.scope csc (.ListComp elt (g::gs) csc pos) (g::gs) (newList []) emitD out (.list out) (lstO [] 0) (AccFr C)
  (fun DD ce=>do let _←call (.builtin "list.append") [.ref DD,←eval elt ce]):=
  { cl:=rfl
    is:=fun DD=>isComp_list fun g hg=>oc.sync g hg
    acc:=fun DD=>accFr DD
    em:=fun DD ce hsc=>emitFr (F ce hsc)
    new:=fun s Q h=>wpAny_newList h
    live:=rfl
    nil:=fun h Y DD ho=>⟨[],0,ho,.nil,.nil,fun a ha=>nomatch ha⟩
    fin:=fun h Y DD ⟨hs,m,ho,ll,pw,al⟩ hY _=> .list (view_of ho hY) (ll.rs fun a ha=>(al a ha).2) }
 refine comp_coreA (use:=none) S a1 K p h1 h2 ok h hlen fun DD L s' kp hL hLc hns hge hDY hac=> ?_
 obtain⟨mm,hns⟩:=hns
 obtain⟨hs,m,ho,ll,pw,al⟩:=hac
 refine⟨mm,hns,fun h5 hsb=> ?_⟩
 have hDL:DD≠L:=fun e=>hDY (e▸zmS)
 refine q DD hs m _ (kp.newOff p.gr.tab hL hLc hsb) ?_ (ll.keep fun a ha o e=> ?_) (fun a ha=> ?_) (List.pairwise_cons.mpr ⟨fun a ha=>(al a ha).1,pw⟩)
 ·show h5.get? DD=_
  rw[hsb.2 DD hDL];exact ho
 ·show h5.get? a=_
  rw[hsb.2 a fun e=>(al a ha).2 (e▸zmS)];exact e
 ·rcases zcon.mp ha with rfl|ha
  ·exact hge _ nL
  ·exact hge _ (Nat.le_of_lt (al a ha).1)
end
section
variable{C:Cx}{n:Nat}{r:Ev}{k:Bool}{A:Around}{env:Env}{Y W:List Addr}{OL:List (Str×Addr)}{l:LocB}{s s' s'' s1:Shared}
theorem del_turn{a:Addr}{c x:Str}{ds:List D}{vs:List Value}{m:Nat}{Q:Flow→Shared→Prop}{p1 p2 p3 p4 p5 p6 p7 p8 p9 p10:Pos}(fs:FS C n k A env Y OL l s)(a1:AOk (n+1) A)(hseq:l "seq"=some (.val (.opq (.ref a))))(hcand:l "candidate"=some (.val (.str c)))
  (haY:a∈Y) (hal:env.locals≠a) (hac:∀p∈env.cells,p.2≠a) (haP:a≠C.P) (ho:s.heap.get? a=some (lstO vs m)) (hr:RP C vs (.str x::ds)) (hlen:ds.length+1≤lim)
  (q:∀s' vs' m',KW C (·=a) s s'→FS C n k A env Y OL l s'→s'.heap.get? a=some (lstO vs' m')→RP C vs' (if x=c then ds else .str x::ds)→Q .next s'):
  wpAny C.M A (exec (.If (.Compare (.Subscript (.Name "seq" p1) (.Constant (.int 0) 0 p2) p3) [.Eq] [.Name "candidate" p4] p5) [.Delete [.Subscript (.Name "seq" p6) (.Constant (.int 0) 0 p7) p8] p9] [] p10) env) Q NE s:=by
 have hov:view s.heap [] a=some (lstO vs m):=view_of ho (by simp)
 have hRD:RD C s.heap [] (.ref a) (.list (.str x::ds)):= .list hov (RP.rs hr)
 refine wpAny_If (wpAny_isTrue_Compare1 (Subscript_ (ldVar fs hseq kD kD fun v rv=>E_int (C:=C) (Y:=[]) fun i s1 k1 r1=> ?_)) (by rfl))
 have e1:=Mine.R.opq_inv rv
 subst e1
 have ho1:=k1.heap haP ho
 have hRD1:RD C s1.heap [] (.ref a) (.list (.str x::ds)):= .list (view_of ho1 (by simp)) (RP.rs hr)
 refine item_sound (C:=C) (Y:=[]) (a:= .list (.str x::ds)) (b:= .int 0) (d:= .str x) (by
  show (if (D.str x::ds).length≤lim then (idx? 0 (D.str x::ds).length).bind ((D.str x::ds)[·]?) else none)=some (.str x)
  rw[if_pos (by simpa using hlen)]
  have:idx? 0 (D.str x::ds).length=some 0:=by unfold idx?;simp
  rw[this];rfl) hRD1 r1 fun v2 s2 k2 r2=> ?_
 obtain⟨t2,rfl⟩:=r2.str_inv
 have fs2:=(fs.kp k1).kp k2
 refine ldVar fs2 hcand kD kD fun v3 r3=> ?_
 obtain⟨t3,rfl⟩:=r3.str_inv
 refine PyProof.Rows.eq_str (wpAny_truthy_bool ?_)
 have ho2:=k2.heap haP ho1
 have kp2:=k1.trans k2
 by_cases hxc:x=c
 ·rw[if_pos hxc] at q
  rw[show (x==c)=true by simpa using hxc]
  simp only[if_true]
  refine wpAny_execs_cons (wpAny_Delete (wpAny_deleteEach_cons (wpAny_delete_Subscript (ldVar fs2 hseq kD kD fun v4 r4=>E_int (C:=C) (Y:=[]) fun i5 s5 k5 r5=> ?_))))
  have e4:=Mine.R.opq_inv r4
  subst e4
  obtain⟨t5,rfl⟩:=r5.int_inv
  have ho5:=k5.heap haP ho2
  have fs5:=fs2.kp k5
  match vs,hr with
  |v0::ws,.cons h0 hr'=>
  have hwl:ws.length=ds.length:=hr'.length
  have hlim:lim=1000000:=rfl
  refine wpAny_delItem_plain (items:=(v0::ws).toArray) (k:=0) ⟨m,ho5⟩ kD (by unfold seqIndex?;simp) (fun h' hp hs=> ?_) (znT (by simp;omega:(v0::ws).toArray.size≤1000000) kD)
  obtain⟨m',hp⟩:=hp
  have hnc:¬CodeAt C s5.heap a:=fun hc=>by
   obtain⟨ps,h1,h2,h3⟩:=fs5.pre.gr.tab
   obtain⟨ps',pos,g1,g2⟩:=hc
   rw[h1] at g1;cases g1
   obtain⟨cc,oc,wss,t,hcv,hoc,hdc,_⟩:=h3 pos _ g2
   cases hcv
   rw[ho5] at hoc;cases hoc;cases hdc
  have kw:KW C (·=a) s5 { s5 with heap:=h' }:=KW.one (tk:=s5.toks) nL rfl haP hnc (fun b o hb e=>by rw[hs.2 b hb];exact e) ⟨_,hp⟩
  have fs6:=fs5.out kw (fun b hb=>hb▸haY) hal hac
  refine wpAny_deleteEach_nil (wpAny_execs_nil (q _ ws m' ((KP.kw (kp2.trans k5)).trans kw) fs6 ?_ hr'))
  have e6:(v0::ws).toArray.eraseIdxIfInBounds 0=ws.toArray:=by simp
  rw[e6] at hp
  exact hp
 ·rw[if_neg hxc] at q
  rw[show (x==c)=false by simpa using hxc]
  simp only[Bool.false_eq_true,if_false]
  exact wpAny_execs_nil (q _ vs m kp2.kw fs2 ho2 hr)
end
def CT(C:Cx)(H:List Addr)(h:Heap)(cur:Addr→List Str):Prop:=∀a∈H,∃vs m,h.get? a=some (lstO vs m)∧RP C vs ((cur a).map .str)
def dropC(c:Str)(l:List Addr)(cur:Addr→List Str):Addr→List Str:=fun a=>if a∈l∧(cur a).head? =some c then (cur a).tail else cur a
abbrev opqs(hs:List Addr):List D:=hs.map fun a=> .opq (.ref a)
section
variable{C:Cx}{n:Nat}{r:Ev}{k:Bool}{A:Around}{env:Env}{Y W H:List Addr}{OL:List (Str×Addr)}{l:LocB}{s s' s'' s1:Shared}
theorem CT.kw{Z:Addr→Prop}{cur:Addr→List Str}(x:CT C H s.heap cur)(kw:KW C Z s s')(hP:∀a∈H,a≠C.P)(hZ:∀a∈H,¬Z a):CT C H s'.heap cur:=fun a ha=>by
 obtain⟨vs,m,e,rr⟩:=x a ha
 exact⟨vs,m,kw.heap (hP a ha) (hZ a ha) e,rr⟩
theorem dropC_take{c:Str}{hs:List Addr}{cur:Addr→List Str}{j:Nat}{a:Addr}(hnd:hs.Nodup)(hj:hs[j]? =some a):
  dropC c (hs.take (j+1)) cur=fun b=>if b=a then (if (cur a).head? =some c then (cur a).tail else cur a) else dropC c (hs.take j) cur b:=by
 have hlt:j<hs.length:=(List.getElem?_eq_some_iff.mp hj).1
 have hga:hs[j]=a:=(List.getElem?_eq_some_iff.mp hj).2
 have hmem:∀b,b∈hs.take (j+1)↔b∈hs.take j∨b=a:=fun b=>by
  rw[List.take_succ,hj];simp
 funext b
 unfold dropC
 by_cases hb:b=a
 ·subst hb
  have:b∈hs.take (j+1):=(hmem b).mpr (.inr rfl)
  simp[this]
 ·rw[if_neg hb]
  have:b∈hs.take (j+1)↔b∈hs.take j:=by rw[hmem];simp[hb]
  simp only[this]
theorem dropC_not{c:Str}{hs:List Addr}{cur:Addr→List Str}{a:Addr}(h:a∉hs):dropC c hs cur a=cur a:=by
 unfold dropC;rw[if_neg];exact fun h'=>h h'.1
structure DInv(C:Cx)(n:Nat)(k:Bool)(A:Around)(env:Env)(Yl H:List Addr)(OL:List (Str×Addr))(I0:Addr)(l:LocB)(c:Str)(hs:List Addr)(cur:Addr→List Str)(pe:Pos)(s:Shared)(m:Nat)(s1:Shared):Prop where
 ex:∃j l',j+m=hs.length∧FS C n k A env ([I0]++Yl) OL l' s1∧(∀x:Str,x≠"seq"→l' x=l x)∧CT C H s1.heap (dropC c (hs.take j) cur)∧SrcR C A (.Name "seq" pe) (olA OL++([I0]++Yl)) I0 [I0] (opqs (hs.drop j)) s1.heap∧
  KW C (fun b=>b=I0∨ZO OL env b∨b∈H) s s1
theorem del_loop{I0:Addr}{c:Str}{hs Yl:List Addr}{cur:Addr→List Str}{pe p1 p2 p3 p4 p5 p6 p7 p8 p9 p10:Pos}{R:Result→Shared→Prop}(fs:FS C n k A env ([I0]++Yl) OL l s)(a1:AOk (n+1) A)(hseqk:env.kindOf "seq"=some .local)(hcand:l "candidate"=some (.val (.str c)))
  (hH:∀a∈hs,a∈H) (hHY:∀a∈H,a∈Yl) (hHW:∀a∈H,a∉olA OL++frameW env) (hHc:∀p∈env.cells,p.2∉H) (hHP:∀a∈H,a≠C.P) (hnd:hs.Nodup) (hIn:I0∉Yl) (hP:C.P∈Yl) (hc:∀p∈env.cells,p.2∈Yl) (wY:∀a∈frameW env,a∈Yl) (oI:Own C [I0] s.heap)
  (hne:∀a∈hs,cur a≠[]) (hlen:∀a∈hs,(cur a).length≤lim) (ct:CT C H s.heap cur) (src:SrcR C A (.Name "seq" pe) (olA OL++([I0]++Yl)) I0 [I0] (opqs hs) s.heap)
  (q:∀s1 s2 l',KW C (fun b=>b=I0∨ZO OL env b∨b∈H) s s1→KJ C [I0] s1 s2→FS C n k A env Yl OL l' s2→(∀x:Str,x≠"seq"→l' x=l x)→CT C H s2.heap (dropC c hs cur)→R (.ok .next) s2):
  codeAny C.M A (.forLoop (.Name "seq" pe) (.ref I0) [.If (.Compare (.Subscript (.Name "seq" p1) (.Constant (.int 0) 0 p2) p3) [.Eq] [.Name "candidate" p4] p5) [.Delete [.Subscript (.Name "seq" p6) (.Constant (.int 0) 0 p7) p8] p9] [] p10] [] env) R s:=by
 refine codeAny_forLoop_any (DInv C n k A env Yl H OL I0 l c hs cur pe s) ?_ hs.length ⟨0,l,by simp,fs,fun _ _=>rfl,fun a ha=>by rw[dropC_not (by simp)];exact ct a ha,by simpa using src,KW.refl s⟩
 rintro m s1 ⟨j,l1,hm,fs1,hl1,ct1,src1,kw1⟩
 have t0:=fs.pre.gr.tab
 have hIP:I0≠C.P:=oI.ne I0 (by simp)
 have hIl:I0≠env.locals:=fun e=>hIn (e▸wY _ zmS)
 have hIc:∀p∈env.cells,¬p.2=I0:=fun p hp e=>hIn (e▸hc p hp)
 have hJY:∀b∈[I0],b∈olA OL++([I0]++Yl):=fun b hb=>zmr _ (zmL _ hb)
 have oI1:Own C [I0] s1.heap:=oI.kw t0 kw1
 have hIO:¬ZO OL env I0:=fun hz=>by
  rcases zapp.mp hz with h|h
  ·obtain⟨p,hp,e⟩:=zmap.mp h
   exact fs.nY p hp (by rw[e];simp)
  ·exact hIn (wY _ h)
 have hIH:I0∉H:=fun h=>hIn (hHY _ h)
 have nE:∀{α:Type} {t:Sem α} {Q:α→Shared→Prop} {s:Shared},wpAny C.M A t Q NE s→wpAny C.M A t Q (notedBy C.M A env fun e s'=>R (.error e) s') s:=fun h=>ne h
 cases hd:hs.drop j with
 |nil=>
  rw[hd] at src1
  refine nE (src1.done fun h' tk ht hk=> ?_)
  have kj:KJ C [I0] s1 { s1 with heap:=h',toks:=tk }:=KJ.of ht oI1.ne oI1.code hk
  have hj:hs.length≤j:=List.drop_eq_nil_iff.mp hd
  refine wpAny_execs_nil (q s1 _ l1 kw1 kj (fs1.lastJ kj (fun a ha=>by simp at ha;subst ha;exact hIn) hP hc wY) hl1 fun a ha=> ?_)
  rw[List.take_of_length_le hj] at ct1
  obtain⟨vs,m',e,rr⟩:=ct1 a ha
  exact⟨vs,m',kj.heap (fun hm=>by simp at hm;exact hIH (hm▸ha)) e,rr⟩
 |cons a as=>
  rw[hd] at src1
  have hlt:j<hs.length:=by
   rcases Nat.lt_or_ge j hs.length with h|h
   ·exact h
   ·rw[List.drop_of_length_le h] at hd;cases hd
  have hjd:hs[j]? =some a:=by
   have:=List.drop_eq_getElem_cons hlt
   rw[hd] at this
   injection this with h1 h2
   rw[h1];simp[hlt]
  have hds:hs.drop (j+1)=as:=by
   have:=List.drop_eq_getElem_cons hlt
   rw[hd] at this
   injection this with h1 h2
   exact h2.symm
  have has:a∈hs:=List.mem_of_getElem? hjd
  have haH:=hH a has
  have src1':SrcR C A (.Name "seq" pe) (olA OL++([I0]++Yl)) I0 [I0] (.opq (.ref a)::opqs as) s1.heap:=src1
  refine nE (wpAny_mono (src1'.next hJY fs1.pre.hYs (Q:=fun v s2=>wpAny C.M A (assign (.Name "seq" pe) env v) (fun _ s₂=>wpAny C.M A (execs [.If (.Compare (.Subscript (.Name "seq" p1) (.Constant (.int 0) 0 p2) p3) [.Eq] [.Name "candidate" p4] p5) [.Delete [.Subscript (.Name "seq" p6) (.Constant (.int 0) 0 p7) p8] p9] [] p10] env) (fun ff s₃=>match ff with
      | .next| .cont=>∃m',m'<m∧DInv C n k A env Yl H OL I0 l c hs cur pe s m' s₃
      | .brk=>R (.ok .next) s₃
      | .ret v=>R (.ok (.ret v)) s₃) (notedBy C.M A env fun e s'=>R (.error e) s') s₂) (notedBy C.M A env fun e s'=>R (.error e) s') s2) ?_) ?_ fun _ _ x=>x)
  ·intro v h' tk ht hk hjo src2 hv
   have hv':=Mine.R.opq_inv hv
   subst hv'
   have kw2:KW C (·=I0) s1 { s1 with heap:=h',toks:=tk }:=KW.one ht rfl hIP (oI1.code I0 (by simp)) (fun b o hb e=>hk b o (by simpa using hb) e) (hjo I0 (by simp))
   have fs2:=fs1.out kw2 (fun b hb=>by rw[hb];simp) (fun e=>hIl e.symm) hIc
   refine nE (wpAny_assign_Name (fs2.assign (.inl hseqk) (d:= .opq (.ref a)) (.opq _) fun s3 kw3 fs3=> ?_))
   have ct3:CT C H s3.heap (dropC c (hs.take j) cur):=(ct1.kw kw2 hHP fun b hb e=>hIH (e▸hb)).kw kw3 hHP fun b hb hz=>hHW b hb hz
   have src3:SrcR C A (.Name "seq" pe) (olA OL++([I0]++Yl)) I0 [I0] (opqs as) s3.heap:=src2.more (Zs:=[]) (fun b hb=>by cases hb) (fun b hb=> .inr hb) fun b o hb e=>by
    refine kw3.heap (fun e'=> ?_) (fun hz=> ?_) e
    ·rcases hb with hb|hb
     ·exact oI1.ne b hb e'
     ·exact hb (e'▸fs1.pre.hP)
    ·rcases hb with hb|hb
     ·simp at hb;subst hb;exact hIO hz
     ·exact hb (ZO.sub fs1.wY hz)
   obtain⟨vs,mm,ho,hr⟩:=ct3 a haH
   have hcur:dropC c (hs.take j) cur a=cur a:=dropC_not fun hm=>by
    have hnd':(hs.take j++a::as).Nodup:=by rw[←hd,List.take_append_drop];exact hnd
    exact(List.nodup_append.mp hnd').2.2 a hm a zmS rfl
   rw[hcur] at hr
   cases hca:cur a with
   |nil=>exact absurd hca (hne a has)
   |cons x xs=>
   rw[hca] at hr
   have hl3c:setL l1 "seq" (.val (.opq (.ref a))) "candidate"=some (.val (.str c)):=by
    unfold setL;rw[if_neg kD,hl1 _ kD];exact hcand
   have hl3s:setL l1 "seq" (.val (.opq (.ref a))) "seq"=some (.val (.opq (.ref a))):=by
    unfold setL;rw[if_pos rfl]
   have haY:a∈[I0]++Yl:=zmr _ (hHY a haH)
   refine wpAny_execs_cons (nE (del_turn (ds:=xs.map .str) fs3 a1 hl3s hl3c haY (fun e=>hHW a haH (e▸zmr _ zmS)) (fun p hp e=>hHc p hp (e▸haH)) (hHP a haH) ho (by simpa using hr) (by have:=hlen a has;rw[hca] at this;simpa using this) fun s4 vs' m' kw4 fs4 ho4 hr4=> ?_))
   have hIa:I0≠a:=fun e=>hIH (e▸haH)
   have src4:SrcR C A (.Name "seq" pe) (olA OL++([I0]++Yl)) I0 [I0] (opqs as) s4.heap:=src3.more (Zs:=[]) (fun b hb=>by cases hb) (fun b hb=> .inr hb) fun b o hb e=>by
    refine kw4.heap (fun e'=> ?_) (fun hz=> ?_) e
    ·rcases hb with hb|hb
     ·exact oI1.ne b hb e'
     ·exact hb (e'▸fs1.pre.hP)
    ·rcases hb with hb|hb
     ·simp at hb;exact hIa (hb.symm.trans hz)
     ·exact hb (zmr _ (hz▸haY))
   refine wpAny_execs_nil ⟨m - 1,by omega,j+1,_,by omega,fs4,fun y hy=> ?_,fun b hb=> ?_,by rw[hds];exact src4,?_⟩
   ·unfold setL;rw[if_neg hy];exact hl1 y hy
   ·rw[dropC_take hnd hjd]
    by_cases hba:b=a
    ·subst hba
     refine⟨vs',m',ho4,?_⟩
     dsimp only
     rw[if_pos rfl,hca]
     by_cases hxc:x=c
     ·rw[if_pos hxc] at hr4
      rw[if_pos (by rw[hxc];rfl)]
      exact hr4
     ·rw[if_neg hxc] at hr4
      rw[if_neg (by simpa using hxc)]
      simpa using hr4
    ·obtain⟨ws,m2,e2,r2⟩:=ct3 b hb
     refine⟨ws,m2,kw4.heap (hHP b hb) hba e2,?_⟩
     dsimp only
     rw[if_neg hba];exact r2
   ·exact kw1.trans ((kw2.mono fun b hb=>Or.inl hb).trans ((kw3.mono fun b hb=>Or.inr (Or.inl hb)).trans (kw4.mono fun b hb=>Or.inr (Or.inr (hb▸haH)))))
  ·rintro rr s2 ⟨v,rfl,hh⟩
   exact nE hh
end
abbrev lrefs(hs:List Addr)(cur:Addr→List Str):List D:=hs.map fun a=> .lref a ((cur a).map .str)
def c3L(hs:List Addr)(cur:Addr→List Str)(xs:List Str):LocB:=fun y=>if y="sequences" then some (.val (.list (lrefs hs cur))) else if y="result" then some (.own (xs.map .str)) else none
def c3H(hs:List Addr)(xs:List Str):LocB:=fun y=>if y="sequences" then some (.val (.list (opqs hs))) else if y="result" then some (.own (xs.map .str)) else none
def c3C(hs:List Addr)(xs:List Str)(c:Str):LocB:=fun y=>if y="candidate" then some (.val (.str c)) else c3H hs xs y
section
variable{C:Cx}{n:Nat}{r:Ev}{k:Bool}{A:Around}{env:Env}{Y W H:List Addr}{OL:List (Str×Addr)}{l:LocB}{s s' s'' s1:Shared}
theorem opqs_inv{Hv:HV}:∀{hs:List Addr} {vs:List Value},Rs C.prog C.w Hv vs (opqs hs)→vs=hs.map .ref
 |[],_,.nil=>rfl
 |a::hs,_,.cons h r=>by rw[Mine.R.opq_inv h,opqs_inv r];rfl
theorem lrefs_inv{Hv:HV}{cur:Addr→List Str}:∀{hs:List Addr} {vs:List Value},Rs C.prog C.w Hv vs (lrefs hs cur)→vs=hs.map .ref
 |[],_,.nil=>rfl
 |a::hs,_,.cons h r=>by
  have h1:=lrefs_inv r
  cases h
  rw[h1];rfl
theorem opqs_rs{Hv:HV}:∀(hs:List Addr),Rs C.prog C.w Hv (hs.map .ref) (opqs hs)
 |[]=> .nil
 |a::hs=> .cons (.opq _) (opqs_rs hs)
theorem strs_map(xs:List Str):strs? (xs.map D.str)=some xs:=by
 induction xs with
 |nil=>rfl
 |cons x xs ih=>show (strs? (xs.map D.str)).map (x::·)=_;rw[ih];rfl
theorem lrefs_rs{h:Heap}{Yv:List Addr}{cur:Addr→List Str}(ct:CT C H h cur)(hn:∀a∈H,a∉Yv):∀(hs:List Addr),(∀a∈hs,a∈H)→RDs C h Yv (hs.map .ref) (lrefs hs cur)
 |[],_=> .nil
 |a::hs,hH=>by
  obtain⟨vs,m,e,rr⟩:=ct a (hH a zmS)
  exact .cons (.lref (view_of e (hn a (hH a zmS))) (RP.rs rr)) (lrefs_rs ct hn hs fun b hb=>hH b (zmC _ hb))
theorem show_fs{Yf hs:List Addr}{cur:Addr→List Str}{xs:List Str}(fs:FS C n k A env (H++Yf) OL (c3H hs xs) s)(ct:CT C H s.heap cur)(hH:∀a∈hs,a∈H)(hn:∀a∈H,a∉olA OL++Yf)(hP:C.P∈Yf)(cY:∀p∈env.cells,p.2∈Yf)(wY:∀a∈frameW env,a∈Yf):FS C n k A env Yf OL (c3L hs cur xs) s:=by
 have hsub:∀a∈olA OL++Yf,a∈olA OL++(H++Yf):=fun a ha=>by
  simp only[List.mem_append] at ha ⊢
  rcases ha with h|h
  ·exact .inl h
  ·exact .inr (.inr h)
 refine⟨⟨fs.pre.bs,fs.pre.a,fs.pre.eo,fs.pre.gr,zmr _ hP,fun a ha=>fs.pre.hY a (hsub a ha),fun a ha=>fs.pre.hYs a (hsub a ha),fs.pre.fm,fun p hp=>zmr _ (cY p hp),fun y d hy=> ?_⟩,hP,cY,fs.own,wY,fun p hp hm=>fs.nY p hp (zmr _ hm),fs.ap,fs.cw,fun y ds hy=> ?_⟩
 ·unfold purL c3L at hy
  by_cases e1:y="sequences"
  ·subst e1
   simp at hy
   subst hy
   obtain⟨v,hv,rv⟩:=fs.pre.loc "sequences" (.list (opqs hs)) (by unfold purL c3H;rw[if_pos rfl])
   obtain⟨S,vs,m,rfl,ho,rs⟩:=rv.list_inv
   have hvs:=opqs_inv rs
   subst hvs
   obtain⟨ho1,ho2⟩:=view_get ho
   exact⟨_,hv,.list (view_of ho1 fun hm=>ho2 (hsub _ hm)) (lrefs_rs ct hn hs hH)⟩
  ·rw[if_neg e1] at hy
   by_cases e2:y="result"
   ·rw[if_pos e2] at hy;cases hy
   ·rw[if_neg e2] at hy;cases hy
 ·unfold c3L at hy
  by_cases e1:y="sequences"
  ·rw[if_pos e1] at hy;cases hy
  ·rw[if_neg e1] at hy
   obtain⟨a,vs,m,g1,g2,g3,g4⟩:=fs.lst y ds (by unfold c3H;rw[if_neg e1];exact hy)
   exact⟨a,vs,m,g1,g2,g3,Rs.mono (view_sub hsub) g4⟩
theorem hide_fs{Yf hs:List Addr}{cur cur':Addr→List Str}{xs:List Str}{c:Str}(fs:FS C n k A env Yf OL l s)(ct:CT C H s.heap cur)(h1:l "sequences"=some (.val (.list (lrefs hs cur'))))(h2:l "result"=some (.own (xs.map .str)))(h3:l "candidate"=some (.val (.str c)))
  (hne:hs≠[]) (hn:∀a∈H,a∉olA OL++Yf) (hg:∀a∈H,C.g0.get? a=none):FS C n k A env (H++Yf) OL (c3C hs xs c) s:=by
 have hmem:∀a,a∈olA OL++(H++Yf)↔a∈H∨a∈olA OL++Yf:=fun a=>by
  simp only[List.mem_append]
  constructor
  ·rintro (h|h|h)
   ·exact .inr (.inl h)
   ·exact .inl h
   ·exact .inr (.inr h)
  ·rintro (h|h|h)
   ·exact .inr (.inl h)
   ·exact .inl h
   ·exact .inr (.inr h)
 refine⟨⟨fs.pre.bs,fs.pre.a,fs.pre.eo,fs.pre.gr,(hmem _).mpr (.inr fs.pre.hP),fun a ha=> ?_,fun a ha=> ?_,fs.pre.fm,fun p hp=>(hmem _).mpr (.inr (fs.pre.hc p hp)),fun y d hy=> ?_⟩,zmr _ fs.hP,fun p hp=>zmr _ (fs.cY p hp),fs.own,fun a ha=>zmr _ (fs.wY a ha),fun p hp hm=> ?_,fs.ap,fs.cw,fun y ds hy=> ?_⟩
 ·exact((hmem a).mp ha).elim (hg a) (fs.pre.hY a)
 ·refine((hmem a).mp ha).elim (fun h=> ?_) (fs.pre.hYs a)
  obtain⟨vs,m,e,_⟩:=ct a h
  exact⟨_,e⟩
 ·unfold purL c3C c3H at hy
  by_cases e0:y="candidate"
  ·subst e0
   simp at hy
   subst hy
   obtain⟨v,hv,rv⟩:=fs.pre.loc "candidate" (.str c) (by unfold purL;rw[h3])
   obtain⟨t,rfl⟩:=rv.str_inv
   exact⟨_,hv,.str c t⟩
  ·rw[if_neg e0] at hy
   by_cases e1:y="sequences"
   ·subst e1
    simp at hy
    subst hy
    obtain⟨v,hv,rv⟩:=fs.pre.loc "sequences" _ (by unfold purL;rw[h1])
    obtain⟨S,vs,m,rfl,ho,rs⟩:=rv.list_inv
    have hvs:=lrefs_inv rs
    subst hvs
    obtain⟨ho1,ho2⟩:=view_get ho
    refine⟨_,hv,.list (view_of ho1 fun hm=> ?_) (opqs_rs hs)⟩
    rcases (hmem S).mp hm with hm|hm
    ·obtain⟨ws,m2,e,rr⟩:=ct S hm
     rw[ho1] at e
     simp only[lstO,Option.some.injEq,Obj.mk.injEq,Data.seq.injEq] at e
     have ew:hs.map Value.ref=ws:=by simpa using congrArg Array.toList e.2.2.1.1
     subst ew
     match hs,hne,rr with
     |a::hs',_,rr=>
      match hc:(cur S),rr with
      |[],rr=>cases rr
      |x::_,.cons h _=>cases h
    ·exact ho2 hm
   ·rw[if_neg e1] at hy
    by_cases e2:y="result"
    ·rw[if_pos e2] at hy;cases hy
    ·rw[if_neg e2] at hy;cases hy
 ·rcases zapp.mp hm with hm|hm
  ·exact hn _ hm (zmL _ (List.mem_map_of_mem (f:=(·.2)) hp))
  ·exact fs.nY p hp hm
 ·unfold c3C c3H at hy
  by_cases e0:y="candidate"
  ·rw[if_pos e0] at hy;cases hy
  ·rw[if_neg e0] at hy
   by_cases e1:y="sequences"
   ·rw[if_pos e1] at hy;cases hy
   ·rw[if_neg e1] at hy
    by_cases e2:y="result"
    ·subst e2
     simp at hy
     subst hy
     obtain⟨a,vs,m,g1,g2,g3,g4⟩:=fs.lst "result" _ h2
     exact⟨a,vs,m,g1,g2,g3,RP.rs (rp_strs g4 (strs_map xs))⟩
    ·rw[if_neg e2] at hy;cases hy
end
section
variable{C:Cx}{n:Nat}{r:Ev}{k:Bool}{A:Around}{env:Env}{Y W H:List Addr}{OL:List (Str×Addr)}{l l':LocB}{s s' s'' s1:Shared}
theorem Ssl_app(S:SS C n r)(rest:List Stmt):∀(ss:List Stmt) (OL:List (Str×Addr)) (l l':LocB) (f:Fl) (s:Shared) (Q:Flow→Shared→Prop) (E:Value→Shared→Prop),FS C n k A env Y OL l s→Ssl r k env.scope l ss=some (f,l')→
  Post C n k A env Y OL f l' s (fun f s=>match f with| .next=>wpAny C.M A (execs rest env) Q E s|f=>Q f s) E→wpAny C.M A (execs (ss++rest) env) Q E s
 |[],OL,l,l',f,s,Q,E,fs,h,q=>by
  unfold Ssl at h
  cases h
  exact q s [] (fun p hp=>by cases hp) (KW.refl s) fs
 |st::ss,OL,l,l',f,s,Q,E,fs,h,q=>by
  unfold Ssl at h
  obtain⟨⟨f1,l1⟩,h1,h2⟩:=zbs.mp h
  show wpAny C.M A (execs (st::(ss++rest)) env) Q E s
  refine wpAny_execs_cons ?_
  have t:=fs.pre.gr.tab
  cases f1 with
  |next=>
   refine S k A env Y OL l st .next l1 s _ E fs h1 fun s1 N hN kw fs1=> ?_
   exact Ssl_app S rest ss (N++OL) l1 l' f s1 Q E fs1 h2 (q.step t hN kw)
  |brk=>cases h2;exact S k A env Y OL l st .brk l' s _ E fs h1 q
  |cont=>cases h2;exact S k A env Y OL l st .cont l' s _ E fs h1 q
  |ret d=>cases h2;exact S k A env Y OL l st (.ret d) l' s _ E fs h1 q
  |exc c d=>cases h2;exact S k A env Y OL l st (.exc c d) l' s _ E fs h1 q
theorem FS.weakL(fs:FS C n k A env Y OL l s)(h:∀y b,l' y=some b→l y=some b):FS C n k A env Y OL l' s:=
 ⟨fs.pre.weak (fun y d e=>by
  unfold purL at e ⊢
  split at e
  ·rename_i d' e';cases e
   rw[h _ _ e']
  ·cases e),fs.hP,fs.cY,fs.own,fs.wY,fs.nY,fs.ap,fs.cw,fun y ds e=>fs.lst y ds (h _ _ e)⟩
theorem src_list{t:Expr}{x:Str}{p:Pos}{its:List D}{Q E:Value→Shared→Prop}(fs:FS C n k A env Y OL l s)(hx:l x=some (.val (.list its)))(h1:(x==("__debug__":Str))=false)(h2:(x==("__classdict__":Str))=false)
  (q:∀I s',KP C s s'→s.heap.get? I=none→FS C n k A env ([I]++Y) OL l s'→Own C [I] s'.heap→SrcR C A t (olA OL++([I]++Y)) I [I] its s'.heap→Q (.ref I) s'):
  wpAny C.M A (eval (.Name x p) env) (fun v s₁=>wpAny C.M A (pyIter v) Q E s₁) E s:=by
 refine ne (ldVar fs hx h1 h2 fun v rv=>ne (iter_sound (ds:=its) fs.pre.a.handled fs.pre.lt rv rfl fun h' hk it=> ?_))
 have hn1:s.heap.get? s.heap.objs.size=none:=newAddr _
 obtain⟨oi,hoi,_⟩:=it.obj
 have kp2:KP C s { s with heap:=h' }:=KP.of nL hk
 refine q s.heap.objs.size _ kp2 hn1 (fs.moreJ (J:=[s.heap.objs.size]) kp2 (fun a ha=>by simp at ha;subst ha;exact hn1) fun a ha=>by simp at ha;subst ha;exact⟨oi,hoi⟩)
  (Own.fresh fs.pre.gr.tab (fun a ha e=> ?_) hk (fun a ha=>by simp at ha;subst ha;exact hn1) fun a ha=>by simp at ha;subst ha;exact⟨oi,hoi⟩) (SrcR.ofIt (by simp) (it.perm fun b=> ?_))
 ·simp at ha;subst ha
  obtain⟨o,ho⟩:=fs.pre.hYs C.P fs.pre.hP
  rw[←e,hn1] at ho;cases ho
 ·simp only[List.mem_append,List.mem_cons,List.mem_singleton,List.not_mem_nil,or_false]
  constructor
  ·rintro (h|h|h)
   ·exact .inr (.inl h)
   ·exact .inl h
   ·exact .inr (.inr h)
  ·rintro (h|h|h)
   ·exact .inr (.inl h)
   ·exact .inl h
   ·exact .inr (.inr h)
inductive C3Run (r:Ev) (sc:Scope) (mid:List Stmt):List Addr→(Addr→List Str)→List Str→List Str→Nat→Prop
 |ret {hs cur xs l'}:Ssl r false sc (c3L hs cur xs) mid=some (.ret (.list (xs.map .str)),l')→(∀a,cur a=[])→C3Run r sc mid hs cur xs xs 0
 |turn {hs hs' cur xs l' c out N}:Ssl r false sc (c3L hs cur xs) mid=some (.next,l')→l' "sequences"=some (.val (.list (lrefs hs' cur)))→l' "result"=some (.own ((xs++[c]).map .str))→l' "candidate"=some (.val (.str c))→hs'≠[]→(∀a∈hs',a∈hs)→hs'.Nodup→
   (∀a∈hs',cur a≠[]∧(cur a).length≤lim)→C3Run r sc mid hs' (dropC c hs' cur) (xs++[c]) out N→C3Run r sc mid hs cur xs out (N+1)
def C3Inv(C:Cx)(n:Nat)(r:Ev)(A:Around)(env:Env)(mid:List Stmt)(H Yf:List Addr)(OL0:List (Str×Addr))(out:List Str)(s:Shared)(m:Nat)(s1:Shared):Prop:=
 ∃hs cur xs N,C3Run r env.scope mid hs cur xs out m∧FS C n false A env (H++Yf) (N++OL0) (c3H hs xs) s1∧CT C H s1.heap cur∧(∀a∈hs,a∈H)∧(∀p∈N,s.heap.get? p.2=none)∧KW C (fun b=>ZO OL0 env b∨b∈H) s s1
theorem c3_while(S:Snd C n r)(a1:AOk (n+1) A){mid:List Stmt}{Yf hs:List Addr}{cur:Addr→List Str}{xs out:List Str}{N0:Nat}{p3 p4 p5 pa pb pc pd pe pf pg ph pi pj pk pl:Pos}{Q:Flow→Shared→Prop}{E:Value→Shared→Prop}
  (run:C3Run r env.scope mid hs cur xs out N0) (fs:FS C n false A env (H++Yf) OL (c3H hs xs) s) (ct:CT C H s.heap cur) (hH:∀a∈hs,a∈H) (hn:∀a∈H,a∉olA OL++Yf) (hg:∀a∈H,C.g0.get? a=none) (hP:C.P∈Yf) (cY:∀p∈env.cells,p.2∈Yf) (wY:∀a∈frameW env,a∈Yf) (hseq:env.kindOf "seq"=some .local)
  (q:∀v s1,KW C (fun b=>ZO OL env b∨b∈H) s s1→RD C s1.heap Yf v (.list (out.map .str))→CT C H s1.heap (fun _=>[])→Q (.ret v) s1):
  wpAny C.M A (exec (.While (.Constant (.bool true) 0 p3) (mid++[.For (.Name "seq" p4) (.Name "sequences" p5) [.If (.Compare (.Subscript (.Name "seq" pa) (.Constant (.int 0) 0 pb) pc) [.Eq] [.Name "candidate" pd] pe) [.Delete [.Subscript (.Name "seq" pf) (.Constant (.int 0) 0 pg) ph] pi] [] pj] [] pk]) [] pl) env) Q E s:=by
 have t0:=fs.pre.gr.tab
 have hex:∀a∈H,∃o,s.heap.get? a=some o:=fun a ha=>by
  obtain⟨vs,m,e,_⟩:=ct a ha
  exact⟨_,e⟩
 refine wpAny_While (codeAny_whileLoop (C3Inv C n r A env mid H Yf OL out s) ?_ N0 ⟨hs,cur,xs,[],run,fs,ct,hH,fun p hp=>(by cases hp),KW.refl s⟩)
 rintro m s1 ⟨hs1,cur1,xs1,N1,run1,fs1,ct1,hH1,hN1,kw1⟩
 have hnn:∀N:List (Str×Addr),(∀p∈N,s.heap.get? p.2=none)→∀a∈H,a∉olA (N++OL)++Yf:=fun N hN a ha hm=>by
  simp only[olA,List.map_append,List.append_assoc,List.mem_append] at hm
  rcases hm with h|h|h
  ·obtain⟨p,hp,rfl⟩:=zmap.mp h
   obtain⟨o,e⟩:=hex _ ha
   rw[hN p hp] at e;cases e
  ·exact hn a ha (zmL _ h)
  ·exact hn a ha (zmr _ h)
 have fsv:=show_fs fs1 ct1 hH1 (hnn N1 hN1) hP cY wY
 have nE:∀{α:Type} {t:Sem α} {Q:α→Shared→Prop} {R:Result→Shared→Prop} {s:Shared},wpAny C.M A t Q NE s→wpAny C.M A t Q (notedBy C.M A env fun e s'=>R (.error e) s') s:=fun h=>ne h
 have hHP:∀a∈H,a≠C.P:=fun a ha e=>hn a ha (zmr _ (e▸hP))
 refine ne (isTrue_plain (E_bool (C:=C) (Y:=Yf) fun v s2 k2 r2=> ?_))
 rw[r2.bool_inv]
 refine wpAny_truthy_bool ?_
 simp only[if_true]
 have kw12:KW C (fun b=>ZO OL env b∨b∈H) s s2:=kw1.trans k2.kw
 have zo:∀b,ZO (N1++OL) env b→(ZO OL env b∨b∈H)∨s.heap.get? b=none:=fun b hb=>(zoNew hN1 b hb).imp .inl id
 cases run1 with
 |ret h hnil=>
  refine Ssl_app S.S _ mid (N1++OL) _ _ _ s2 _ _ (fsv.kp k2) h fun v s3 kw rd=>q v s3 (kw12.transNew kw zo) rd ?_
  have e:cur1=fun _=>[]:=funext hnil
  rw[←e]
  refine(ct1.kw (KP.kw k2 (Z:=fun _=>False)) hHP fun _ _ h=>h).kw kw hHP fun a ha hz=> ?_
  rcases zapp.mp hz with hz|hz
  ·exact hnn N1 hN1 a ha (zmL _ hz)
  ·exact hnn N1 hN1 a ha (zmr _ (wY a hz))
 | @turn _ hs' _ _ l' c _ N h e1 e2 e3 hne hsub hnd hlen run'=>
   refine Ssl_app S.S _ mid (N1++OL) _ _ _ s2 _ _ (fsv.kp k2) h fun s3 N2 hN2 kw3 fs3=> ?_
   have kw13:KW C (fun b=>ZO OL env b∨b∈H) s s3:=kw12.transNew kw3 zo
   have hN21:∀p∈N2++N1,s.heap.get? p.2=none:=fun p hp=>by
    rcases zapp.mp hp with hp|hp
    ·exact newIn kw12 t0 (hN2 p hp)
    ·exact hN1 p hp
   have hnn3:=hnn (N2++N1) hN21
   rw[List.append_assoc] at hnn3
   have hHz:∀a∈H,¬ZO (N1++OL) env a:=fun a ha hz=>by
    rcases zapp.mp hz with hz|hz
    ·exact hnn N1 hN1 a ha (zmL _ hz)
    ·exact hnn N1 hN1 a ha (zmr _ (wY a hz))
   have ct3:CT C H s3.heap cur1:=(ct1.kw (KP.kw k2 (Z:=fun _=>False)) hHP fun _ _ h=>h).kw kw3 hHP hHz
   have fsh:=hide_fs fs3 ct3 e1 e2 e3 hne hnn3 hg
   refine wpAny_execs_cons (wpAny_For (src_list fsh (t:= .Name "seq" p4) (its:=opqs hs') (x:="sequences") (by unfold c3C c3H;rw[if_neg kD,if_pos rfl]) kD kD fun I s4 kp4 hI4 fs4 oI4 src4=> ?_) (by intro _;rfl))
   have ct4:CT C H s4.heap cur1:=ct3.kw (KP.kw kp4 (Z:=fun _=>False)) hHP fun _ _ h=>h
   have hIY:I∉H++Yf:=fun hm=>by
    obtain⟨o,e⟩:=fsh.pre.hYs I (zmr _ hm)
    rw[hI4] at e;cases e
   refine del_loop fs4 a1 hseq (by unfold c3C;rw[if_pos rfl]) (fun a ha=>hH1 a (hsub a ha)) (fun a ha=>zmL _ ha) (fun a ha hm=> ?_) (fun p hp hm=>hn _ hm (zmr _ (cY p hp))) hHP hnd hIY (zmr _ hP) (fun p hp=>zmr _ (cY p hp)) (fun a ha=>zmr _ (wY a ha)) oI4 (fun a ha=>(hlen a ha).1) (fun a ha=>(hlen a ha).2) ct4 src4 fun s5 s6 l6 kw5 kj fs6 hl6 ct6=> ?_
   ·rcases zapp.mp hm with hm|hm
    ·exact hnn3 a ha (zmL _ hm)
    ·exact hnn3 a ha (zmr _ (wY a hm))
   ·have hIs:s.heap.get? I=none:=newIn kw13 t0 hI4
    have fs7:FS C n false A env (H++Yf) (N2++(N1++OL)) (c3H hs' (xs1++[c])) s6:=fs6.weakL (fun y b hy=>by
     have hys:y="sequences"∨y="result":=by
      unfold c3H at hy
      by_cases h1:y="sequences"
      ·exact .inl h1
      ·rw[if_neg h1] at hy
       by_cases h2:y="result"
       ·exact .inr h2
       ·rw[if_neg h2] at hy;cases hy
     have hq:y≠"seq"∧y≠"candidate":=by rcases hys with rfl|rfl <;> exact⟨by decide,by decide⟩
     rw[hl6 y hq.1]
     unfold c3C
     rw[if_neg hq.2]
     exact hy)
    refine wpAny_execs_nil ⟨N,Nat.lt_succ_self N,hs',dropC c hs' cur1,xs1++[c],N2++N1,run',by rw[List.append_assoc];exact fs7,ct6,fun a ha=>hH1 a (hsub a ha),hN21,?_⟩
    ·have hZ:∀b,(b=I∨ZO (N2++(N1++OL)) env b∨b∈H)→((ZO OL env b∨b∈H)∨b∈[I])∨s.heap.get? b=none:=fun b hb=>by
      rcases hb with hb|hb|hb
      ·exact .inl (.inr (by simp[hb]))
      ·rw[←List.append_assoc] at hb
       exact(zoNew hN21 b hb).imp (fun h=> .inl (.inl h)) id
      ·exact .inl (.inl (.inr hb))
     have kw15:KW C (fun b=>(ZO OL env b∨b∈H)∨b∈[I]) s s5:=((kw13.mono fun b hb=>Or.inl hb).trans kp4.kw).transNew kw5 hZ
     exact kw15.lastJ (fun b hb=>by simp at hb;subst hb;exact hIs) kj fun b hb=>hb
end
structure C3Fn(fn:Fn)(first:Stmt)(mid:List Stmt):Prop where
 ok:okFn fn=true
 names:fn.names=(["sequences"]:List Str)
 seq:fn.scope.names.lookup ("seq":Str)=some .local
 shape:∃p:Nat→Pos,fn.body=[first]++[.While (.Constant (.bool true) 0 (p 0)) (mid++[.For (.Name "seq" (p 1)) (.Name "sequences" (p 2)) [.If (.Compare (.Subscript (.Name "seq" (p 3)) (.Constant (.int 0) 0 (p 4)) (p 5)) [.Eq] [.Name "candidate" (p 6)] (p 7)) [.Delete [.Subscript (.Name "seq" (p 8)) (.Constant (.int 0) 0 (p 9)) (p 10)] (p 11)] [] (p 12)] [] (p 13)]) [] (p 14)]
section
variable{C:Cx}{n:Nat}{r:Ev}{k:Bool}{A:Around}{env:Env}{Y Y' W H:List Addr}{OL:List (Str×Addr)}{l l':LocB}{s s' s'' s1:Shared}
theorem FS.perm(fs:FS C n k A env Y OL l s)(h:∀a,a∈Y'↔a∈Y):FS C n k A env Y' OL l s:=by
 have h1:∀a,a∈olA OL++Y'↔a∈olA OL++Y:=fun a=>by simp only[List.mem_append,h]
 exact⟨⟨fs.pre.bs,fs.pre.a,fs.pre.eo,fs.pre.gr,(h1 _).mpr fs.pre.hP,fun a ha=>fs.pre.hY a ((h1 a).mp ha),fun a ha=>fs.pre.hYs a ((h1 a).mp ha),fs.pre.fm,fun p hp=>(h1 _).mpr (fs.pre.hc p hp),fun y d e=>by
  obtain⟨v,a,rv⟩:=fs.pre.loc y d e
  exact⟨v,a,Mine.R.mono (view_sub fun a ha=>(h1 a).mp ha) rv⟩⟩,(h _).mpr fs.hP,fun p hp=>(h _).mpr (fs.cY p hp),fs.own,fun a ha=>(h a).mpr (fs.wY a ha),fun p hp hm=>fs.nY p hp ((h _).mp hm),fs.ap,fs.cw,fun y ds e=>by
  obtain⟨a,vs,m,g1,g2,g3,g4⟩:=fs.lst y ds e
  exact⟨a,vs,m,g1,g2,g3,Rs.mono (view_sub fun a ha=>(h1 a).mp ha) g4⟩⟩
theorem c3_call(S:Snd C n r){f:Str}{fn:Fn}{first:Stmt}{mid:List Stmt}(hf:C3Fn fn first mid)(bs:Base C){af:Addr}{o:Obj}{pm code doc:Value}(ho:C.g0.get? af=some o)(hd:o.data= .func (docDef f fn.params fn.body fn.scope pm code doc))(hc:C.g0.CodeRec code f)
  (g:Gr C s) (hP:C.P∈Y) (hY:∀a∈Y,C.g0.get? a=none) (hYs:∀a∈Y,∃o,s.heap.get? a=some o) (room:CRoom (n+1) A) {hs:List Addr} {va:Value} {cur:Addr→List Str} {out:List Str} {N0:Nat}
  (hstart:∀l:LocB,∃l1,Ssl r false fn.scope l [first]=some (.next,l1)∧l1 "result"=some (.own [])∧∀y:Str,y≠"result"→l1 y=l y)
  (hv:RD C s.heap Y va (.list (opqs hs))) (ct:CT C hs s.heap cur) (hHY:∀a∈hs,a∈Y) (hHP:∀a∈hs,a≠C.P) (hout:out≠[]∨hs=[]) (run:C3Run r fn.scope mid hs cur [] out N0) {Q E:Value→Shared→Prop}
  (q:∀v s',KW C (·∈hs) s s'→RD C s'.heap Y v (.list (out.map .str))→Q v s'):wpAny C.M A (call (.ref af) [va]) Q E s:=by
 have ok:=okFn_of hf.ok
 have hdep:=room.depth
 have hnames:fn.params.args.map (·.arg)=(["sequences"]:List Str):=hf.names
 have hlen:fn.params.args.length=1:=by have:=congrArg List.length hnames;simpa using this
 refine wpAny_call (codeAny_call_function (fd:=docDef f fn.params fn.body fn.scope pm code doc) (body:=fn.body) (by have:recursionLimit=1000:=rfl;omega) (g.keep _ _ ho) hd ok.co ok.gen rfl (hc.keeps g.keep) ?_)
 rw[bindArgs_plain ok.plain rfl (by show fn.params.args.length=1;exact hlen)]
 refine wpAny_pure (ne ?_)
 obtain⟨l0,hb⟩:∃l0,bindP fn.names [.list (opqs hs)]=some l0:=by rw[hf.names];exact⟨_,rfl⟩
 have hl0:=bindP_lookup hb
 rw[hf.names] at hl0
 have ls0:l0 "sequences"=some (.val (.list (opqs hs))):=by rw[hl0];rfl
 refine newFrame (k:=false) (n:=n+1) (A:=A) ok bs g hP hY hYs (fun env=>room.deeper) hb (.cons hv .nil) (fun h=>by cases h) fun env s1 kp1 fs1 hn1 hcn hsc hef=>⟨bs.nolimit.keeps (g.kp bs kp1).keep,codeAny_func ?_⟩
 obtain⟨p,hbody⟩:=hf.shape
 rw[hbody]
 have a1:AOk (n+1) (A.deeper env):=fs1.pre.a
 obtain⟨l1,h1,h2,h3⟩:=hstart l0
 have ct1:CT C hs s1.heap cur:=ct.kw (KP.kw kp1 (Z:=fun _=>False)) hHP fun _ _ h=>h
 refine Ssl_app S.S _ [first] [] l0 l1 .next s1 _ _ (fs1.lo (Nat.le_succ n)) (by rw[hsc];exact h1) fun s2 N hN kw2 fs2=> ?_
 have hex:∀a∈hs,∃o,s.heap.get? a=some o:=fun a ha=>hYs a (hHY a ha)
 have hW:∀a∈hs,a∉frameW env:=fun a ha hm=>by
  obtain⟨oo,e⟩:=hex a ha
  rw[hn1 a hm] at e;cases e
 have ct2:CT C hs s2.heap cur:=ct1.kw kw2 hHP fun a ha hz=>hW a ha (by simpa using hz)
 have hperm:∀a,a∈hs++(frameW env++Y.filter fun a=>decide (a∉hs))↔a∈frameW env++Y:=fun a=>by
  simp only[List.mem_append,List.mem_filter,decide_eq_true_eq]
  constructor
  ·rintro (h|h|h)
   ·exact .inr (hHY a h)
   ·exact .inl h
   ·exact .inr h.1
  ·rintro (h|h)
   ·exact .inr (.inl h)
   ·by_cases ha:a∈hs
    ·exact .inl ha
    ·exact .inr (.inr ⟨h,ha⟩)
 have fs2':FS C n false (A.deeper env) env (hs++(frameW env++Y.filter fun a=>decide (a∉hs))) (N++[]) (c3H hs []) s2:=(fs2.perm hperm).weakL fun y b hy=>by
  unfold c3H at hy
  by_cases e1:y="sequences"
  ·subst e1
   rw[if_pos rfl] at hy
   rw[h3 _ kD,ls0];exact hy
  ·rw[if_neg e1] at hy
   by_cases e2:y="result"
   ·subst e2
    rw[if_pos rfl] at hy
    rw[h2];exact hy
   ·rw[if_neg e2] at hy;cases hy
 have hn:∀a∈hs,a∉olA (N++[])++(frameW env++Y.filter fun a=>decide (a∉hs)):=fun a ha hm=>by
  simp only[List.append_nil,List.mem_append,List.mem_filter,decide_eq_true_eq] at hm
  rcases hm with h|h|h
  ·obtain⟨pp,hp,rfl⟩:=zmap.mp h
   obtain⟨vs,m,e,_⟩:=ct1 _ ha
   rw[hN pp hp] at e;cases e
  ·exact hW a ha h
  ·exact h.2 ha
 have t0:=g.tab
 refine wpAny_execs_cons (c3_while S a1 (by rw[hsc];exact run) fs2' ct2 (fun a ha=>ha) hn (fun a ha=>hY a (hHY a ha)) (zmr _ (zfil.mpr ⟨hP,decide_eq_true fun h=>hHP _ h rfl⟩)) (fun pp hp=>zmL _ (hcn pp hp)) (fun a ha=>zmL _ ha)
  (by show env.scope.names.lookup ("seq":Str)=_;rw[hsc];exact hf.seq) fun v s3 kw3 rd ct3=> ?_)
 refine q v s3 (((KP.kw kp1 (Z:=(·∈hs))).transNew kw2 fun b hb=> .inr (hn1 b (by simpa using hb))).transNew kw3 fun b hb=> ?_) ?_
 ·rcases hb with hb|hb
  ·simp only[ZO,List.append_nil,List.mem_append] at hb
   rcases hb with hb|hb
   ·obtain⟨pp,hp,rfl⟩:=zmap.mp hb
    exact .inr (newIn kp1.kw t0 (hN pp hp) (Z:=fun _=>False))
   ·exact .inr (hn1 b hb)
  ·exact .inl hb
 ·obtain⟨S',vs,m,rfl,hov,rs⟩:=rd.list_inv
  obtain⟨h4,h5⟩:=view_get hov
  have hSH:S'∉hs:=fun hm=>by
   rcases hout with ho'|ho'
   ·obtain⟨ws,m2,e,rr⟩:=ct3 S' hm
    rw[h4] at e
    simp only[lstO,Option.some.injEq,Obj.mk.injEq,Data.seq.injEq] at e
    have ew:vs=ws:=by simpa using congrArg Array.toList e.2.2.1.1
    subst ew
    cases rr
    have:=rs.length
    simp at this
    exact ho' (List.length_eq_zero_iff.mp this.symm)
   ·rw[ho'] at hm;cases hm
  refine .list (view_of h4 fun hm=>h5 (zmr _ (zfil.mpr ⟨hm,decide_eq_true hSH⟩))) (RP.rs (rp_strs rs (strs_map out)))
end
def curOf(hs:List Addr)(xss:List (List Str))(a:Addr):List Str:=((hs.zip xss).lookup a).getD []
abbrev strLists(xss:List (List Str)):List D:=xss.map fun xs=> .list (xs.map .str)
section
variable{C:Cx}{n m:Nat}{r r':Ev}{k:Bool}{A:Around}{env:Env}{Y Y' W H:List Addr}{OL:List (Str×Addr)}{l l':LocB}{s s' s'' s1:Shared}
theorem LL.append_inv{h:Heap}:∀{hs:List Addr} {a0:List D},LL C h hs a0→hs.length=a0.length
 |_,_,.nil=>rfl
 |_,_,.cons _ _ t=>by rw[List.length_cons,List.length_cons,LL.append_inv t]
theorem LL.ct{h:Heap}:∀{hs:List Addr} {xss:List (List Str)},LL C h hs (strLists xss)→hs.Nodup→CT C hs h (curOf hs xss)
 |[],_,_,_=>fun a ha=>nomatch ha
 |b::hs,[],t,_=>by cases t
 |b::hs,xs::xss,t,hnd=>by
  cases t with
  |cons e rr t=>
  obtain⟨n1,n2⟩:=znco.mp hnd
  have ih:=LL.ct t n2
  intro a ha
  by_cases hab:a=b
  ·subst hab
   refine⟨_,_,e,?_⟩
   have:curOf (a::hs) (xs::xss) a=xs:=by unfold curOf;simp
   rw[this];exact rr
  ·rcases zcon.mp ha with h|ha
   ·exact absurd h hab
   ·obtain⟨vs,m,e',r'⟩:=ih a ha
    refine⟨vs,m,e',?_⟩
    have:curOf (b::hs) (xs::xss) a=curOf hs xss a:=by
     unfold curOf
     rw[List.zip_cons_cons,List.lookup_cons]
     have:(a==b)=false:=by simpa using hab
     rw[this]
    rw[this];exact r'
theorem merge_call(S:Snd C n r){f:Str}{fn:Fn}{first:Stmt}{mid:List Stmt}(hf:C3Fn fn first mid){af:Addr}{o:Obj}{pm code doc:Value}(ho:C.g0.get? af=some o)(hd:o.data= .func (docDef f fn.params fn.body fn.scope pm code doc))(hc:C.g0.CodeRec code f)
  (room:CRoom (n+1) A) {hs:List Addr} {xss:List (List Str)} {va:Value} {out:List Str} {N0:Nat} (fs:FS C m k A env (hs++Y) OL l s) (hstart:∀l:LocB,∃l1,Ssl r false fn.scope l [first]=some (.next,l1)∧l1 "result"=some (.own [])∧∀y:Str,y≠"result"→l1 y=l y)
  (hv:RD C s.heap (olA OL++(hs++Y)) va (.list (opqs hs))) (hnd:hs.Nodup) (ll:LL C s.heap hs (strLists xss)) (hHY:∀a∈hs,a∉Y) (hP:C.P∈Y) (cY:∀p∈env.cells,p.2∈Y) (wY:∀a∈frameW env,a∈Y) (hout:out≠[]∨hs=[]) (run:C3Run r fn.scope mid hs (curOf hs xss) [] out N0) {Q E:Value→Shared→Prop}
  (q:∀v s',KW C (·∈hs) s s'→FS C m k A env Y OL l s'→RD C s'.heap (olA OL++Y) v (.list (out.map .str))→Q v s'):wpAny C.M A (call (.ref af) [va]) Q E s:=by
 have p:=fs.pre
 have hHP:∀a∈hs,a≠C.P:=fun a ha e=>hHY a ha (e▸hP)
 refine c3_call S hf p.bs ho hd hc p.gr p.hP p.hY p.hYs room hstart hv (ll.ct hnd) (fun a ha=>zmr _ (zmL _ ha)) hHP hout run fun v s' kw rd=> ?_
 have fs':FS C m k A env (hs++Y) OL l s':=fs.out kw (fun b hb=>zmL _ hb) (fun hm=>hHY _ hm (wY _ zmS)) fun pp hp hm=>hHY _ hm (cY pp hp)
 refine q v s' kw (fs'.lastJ (KJ.refl s') hHY hP cY wY) (Mine.R.mono (view_sub fun a ha=> ?_) rd)
 simp only[List.mem_append] at ha ⊢
 rcases ha with h|h
 ·exact .inl h
 ·exact .inr (.inr h)
theorem fresh_hidden{elt:Expr}{g:Comprehension}{gs:List Comprehension}{csc:Scope}{emitD:Loc→Option D}{its:List D}{d:D}{xss:List (List Str)}{pos:Pos}{Q:Value→Shared→Prop}(S:SE C m r')(a1:AOk (m+1) A)(F:∀ce,ce.scope=ownSc env.scope csc→FreshE C m k A ce elt emitD)(fs:FS C m k A env Y OL l s)
  (h1:r'.E k env.scope (purL l) g.iter=some d) (h2:iterD d=some its) (ok:okComp env.scope csc (g::gs)=true) (h:comp r' k (ownSc env.scope csc) emitD (g::gs) (compLoc csc (purL l)) its=some (strLists xss)) (hlen:xss.length≤lim)
  (q:∀v hs s',KP C s s'→FS C m k A env (hs++Y) OL l s'→RD C s'.heap (olA OL++(hs++Y)) v (.list (opqs hs))→LL C s'.heap hs (strLists xss)→(∀a∈hs,s.heap.get? a=none)→hs.Nodup→Q v s'):
  wpAny C.M A (eval (.ListComp elt (g::gs) csc pos) env) Q NE s:=by
 refine fresh_comp S a1 F fs.pre h1 h2 ok h (by simpa using hlen) fun DD hs mm s' kp ho ll hnew pw=> ?_
 obtain⟨pw1,pw2⟩:=List.pairwise_cons.mp pw
 have fs':FS C m k A env (hs++Y) OL l s':=(fs.moreJ kp (fun a ha=>hnew a (zmC _ ha)) fun a ha=>ll.ex a ha)
 refine q _ hs s' kp fs' (.list (view_of ho fun hm=> ?_) (opqs_rs hs)) ll (fun a ha=>hnew a (zmC _ ha)) (pw2.imp fun h=>Nat.ne_of_lt h)
 simp only[List.mem_append] at hm
 have hDn:s.heap.get? DD=none:=hnew DD zmS
 rcases hm with h|h|h
 ·obtain⟨o,e⟩:=fs.pre.hYs DD (zmL _ h);rw[hDn] at e;cases e
 ·exact Nat.lt_irrefl _ (pw1 DD h)
 ·obtain⟨o,e⟩:=fs.pre.hYs DD (zmr _ h);rw[hDn] at e;cases e
end
section
variable{C:Cx}{n m:Nat}{r r':Ev}{k:Bool}{A:Around}{env:Env}{Y Y' W H:List Addr}{OL:List (Str×Addr)}{l l':LocB}{s s' s'' s1:Shared}
structure C3At(C:Cx)(r:Ev)(f:Str)(fn:Fn)(first:Stmt)(mid:List Stmt)(af:Addr)(o:Obj)(pm code doc:Value):Prop where
 hf:C3Fn fn first mid
 ho:C.g0.get? af=some o
 hd:o.data= .func (docDef f fn.params fn.body fn.scope pm code doc)
 hc:C.g0.CodeRec code f
 hm:C.mg f=some (.ref af)
 db:(f==("__debug__":Str))=false
 start:∀l:LocB,∃l1,Ssl r false fn.scope l [first]=some (.next,l1)∧l1 "result"=some (.own [])∧∀y:Str,y≠"result"→l1 y=l y
end
section
variable{C:Cx}{n m:Nat}{r r':Ev}{k:Bool}{A:Around}{env:Env}{Y Y' W H:List Addr}{OL:List (Str×Addr)}{l l':LocB}{s s' s'' s1:Shared}
theorem across_stmt{x:Str}{elt:Expr}{g:Comprehension}{gs:List Comprehension}{csc:Scope}{emitD:Loc→Option D}{its:List D}{d:D}{xss:List (List Str)}{p pos spos:Pos}{Q:Flow→Shared→Prop}{E:Value→Shared→Prop}(S:SE C m r')(a1:AOk (m+1) A)(F:∀ce,ce.scope=ownSc env.scope csc→FreshE C m k A ce elt emitD)(fs:FS C m k A env Y OL l s)
  (h1:r'.E k env.scope (purL l) g.iter=some d) (h2:iterD d=some its) (ok:okComp env.scope csc (g::gs)=true) (h:comp r' k (ownSc env.scope csc) emitD (g::gs) (compLoc csc (purL l)) its=some (strLists xss)) (hlen:xss.length≤lim)
  (hsw:swapsWith (.ListComp elt (g::gs) csc pos) (some (.Name x p)) spos.line env=pure true) (hx:env.kindOf x=some .local)
  (q:∀hs s',KW C (ZO OL env) s s'→FS C m k A env (hs++Y) OL (setL l x (.val (.list (opqs hs)))) s'→LL C s'.heap hs (strLists xss)→(∀a∈hs,s.heap.get? a=none)→hs.Nodup→Q .next s'):
  wpAny C.M A (exec (.Assign [.Name x p] (.ListComp elt (g::gs) csc pos) spos) env) Q E s:=by
 have oc:=okC ok
 have t0:=fs.pre.gr.tab
 have h0:g.is_async=0:=oc.sync g zmS
 have hfa:firstAsync (g::gs)=false:=by cases g;simp only at h0;subst h0;rfl
 have hfi:firstIter (g::gs) env=eval g.iter env:=by cases g;rfl
 have K:CKind C m k A env.scope csc (.ListComp elt (g::gs) csc pos) (g::gs) (newList []) emitD (strLists xss) (.list (strLists xss)) (lstO [] 0) (AccFr C)
  (fun DD ce=>do let _←call (.builtin "list.append") [.ref DD,←eval elt ce]):=
  { cl:=rfl
    is:=fun DD=>isComp_list fun g hg=>oc.sync g hg
    acc:=fun DD=>accFr DD
    em:=fun DD ce hsc=>emitFr (F ce hsc)
    new:=fun s Q h=>wpAny_newList h
    live:=rfl
    nil:=fun h Y DD ho=>⟨[],0,ho,.nil,.nil,fun a ha=>nomatch ha⟩
    fin:=fun h Y DD ⟨hs,m,ho,ll,pw,al⟩ hY _=> .list (view_of ho hY) (ll.rs fun a ha=>(al a ha).2) }
 refine ne ?_
 rw[exec_Assign_Name_used _ _ _ _ hsw]
 refine wpAny_bind (wpAny_standAt (wpAny_bind ?_))
 rw[evalThenUse,hfa,hfi]
 refine wpAny_bind (wpAny_mono (comp_coreA (Q:=fun _ s'=>Q .next s') (use:=some (assign (.Name x p) env)) S a1 K fs.pre h1 h2 ok h (by simpa using hlen) fun DD L s' kp hL hLc hns hge hDY hac=> ?_) (fun _ s' hq=>wpAny_pure (wpAny_pure hq)) fun _ _ x=>x.elim)
 show wpAny C.M A (assign (.Name x p) env (.ref DD)) _ NE s'
 obtain⟨mm,hns⟩:=hns
 obtain⟨hs,m0,ho,ll,pw,al⟩:=hac
 have hnew:∀a∈hs,s.heap.get? a=none:=fun a ha=>hge a (Nat.le_of_lt (al a ha).1)
 have hDn:s.heap.get? DD=none:=hge DD nL
 have hLe:∃o,s'.heap.get? L=some o:=by obtain⟨o,es,ep,ho,_⟩:=hns;exact⟨o,ho⟩
 have hLhs:L∉hs:=fun hm=>(al L hm).2 zmS
 have fs1:FS C m k A env ([L]++(hs++Y)) OL l s':=by
  have h3:FS C m k A env ((L::hs)++Y) OL l s':=fs.moreJ kp (fun a ha=>by
   rcases zcon.mp ha with rfl|ha
   ·exact hL
   ·exact hnew a ha) fun a ha=>by
   rcases zcon.mp ha with rfl|ha
   ·exact hLe
   ·exact ll.ex a ha
  simpa using h3
 have hLY:L∉hs++Y:=fun hm=>by
  rcases zapp.mp hm with hm|hm
  ·exact hLhs hm
  ·obtain⟨o,e⟩:=fs.pre.hYs L (zmr _ hm)
   rw[hL] at e;cases e
 have hLP:L≠C.P:=fun e=>hLY (zmr _ (e▸fs.hP))
 have rd:RD C s'.heap (olA OL++([L]++(hs++Y))) (.ref DD) (.list (opqs hs)):=by
  refine .list (view_of ho fun hm=> ?_) (opqs_rs hs)
  simp only[List.mem_append,List.mem_singleton] at hm
  rcases hm with h|h|h|h
  ·obtain⟨o,e⟩:=fs.pre.hYs DD (zmL _ h);rw[hDn] at e;cases e
  ·exact hDY (h▸zmS)
  ·exact Nat.lt_irrefl _ (al DD h).1
  ·obtain⟨o,e⟩:=fs.pre.hYs DD (zmr _ h);rw[hDn] at e;cases e
 refine wpAny_assign_Name (fs1.assign (.inl hx) rd fun s2 kw2 fs2=> ?_)
 have hLW:∀a∈L::hs,¬ZO OL env a:=fun a ha hz=>by
  have:s.heap.get? a=none:=by
   rcases zcon.mp ha with rfl|ha
   ·exact hL
   ·exact hnew a ha
  obtain⟨o,e⟩:=fs.pre.hYs a (ZO.sub fs.wY hz)
  rw[this] at e;cases e
 have hns2:s2.heap.Ns L mm:=hns.at fun o e=>kw2.heap hLP (hLW L zmS) e
 refine⟨mm,hns2,fun h5 hsb=> ?_⟩
 have hLc2:¬CodeAt C s2.heap L:=kw2.code fs1.pre.gr.tab hLe hLc
 have kj:KJ C [L] s2 { s2 with heap:=h5 }:=KJ.of (tk:=s2.toks) nL (fun a ha=>by simp at ha;subst ha;exact hLP) (fun a ha=>by simp at ha;subst ha;exact hLc2) fun b o hb e=>by rw[hsb.2 b (by simpa using hb)];exact e
 have hPP:∀a∈hs,a≠C.P:=fun a ha e=>(al a ha).2 (zmC _ (zmr _ (e▸fs.hP)))
 refine q hs _ (((KP.kw kp (Z:=ZO OL env)).trans kw2).lastJ (J:=[L]) (fun b hb=>by simp at hb;subst hb;exact hL) kj fun b hb=> .inl hb) (fs2.lastJ kj (fun a ha=>by simp at ha;subst ha;exact hLY) (zmr _ fs.hP) (fun p hp=>zmr _ (fs.cY p hp)) fun a ha=>zmr _ (fs.wY a ha)) (ll.keep fun a ha o e=> ?_) hnew (pw.imp fun h=>Nat.ne_of_lt h)
 have e2:=kw2.heap (hPP a ha) (hLW a (zmC _ ha)) e
 exact kj.heap (fun hm=>by simp at hm;exact hLhs (hm▸ha)) e2
theorem merge1_stmt(S:Snd C n r)(S':SE C m r')(a1:AOk (m+1) A){f x y:Str}{fn:Fn}{first:Stmt}{mid:List Stmt}{af:Addr}{o:Obj}{pm code doc:Value}(c3:C3At C r f fn first mid af o pm code doc)(room:CRoom (n+1) A){hs2:List Addr}(fs:FS C m k A env (hs2++Y) OL l s)
  {e1:Expr} {g1:Comprehension} {gs1:List Comprehension} {sc1:Scope} {em1:Loc→Option D} {i1:List D} {d1:D} {xs1 xs2:List (List Str)} {out:List Str}
  (F1:∀ce,ce.scope=ownSc env.scope sc1→FreshE C m k A ce e1 em1) (h11:r'.E k env.scope (purL l) g1.iter=some d1) (h12:iterD d1=some i1) (ok1:okComp env.scope sc1 (g1::gs1)=true) (hc1:comp r' k (ownSc env.scope sc1) em1 (g1::gs1) (compLoc sc1 (purL l)) i1=some (strLists xs1)) (hl1:xs1.length≤1000)
  (hy:l y=some (.val (.list (opqs hs2)))) (hyd:(y==("__debug__":Str))=false∧(y==("__classdict__":Str))=false) (ll2:LL C s.heap hs2 (strLists xs2)) (hnY2:∀a∈hs2,a∉Y) (nd2:hs2.Nodup) (hl2:xs2.length≤1000) (hP:C.P∈Y) (cY:∀p∈env.cells,p.2∈Y) (wY:∀a∈frameW env,a∈Y)
  (hout:out≠[]∨xs1++xs2=[]) (run:∀hs:List Addr,hs.Nodup→hs.length=(xs1++xs2).length→∃N,C3Run r fn.scope mid hs (curOf hs (xs1++xs2)) [] out N)
  (hx:env.kindOf x=some .local∨env.kindOf x=some .cell) (hkf:env.kindOf f=some .globalImplicit) {p0 p1 p2 p3 p4 q1 q2:Pos} {Q:Flow→Shared→Prop} {E:Value→Shared→Prop}
  (q:∀s',KW C (fun b=>ZO OL env b∨b∈hs2) s s'→FS C m k A env Y OL (setL l x (.val (.list (out.map .str)))) s'→Q .next s'):
  wpAny C.M A (exec (.Assign [.Name x p0] (.Call (.Name f p1) [.BinOp (.ListComp e1 (g1::gs1) sc1 q1) .Add (.Name y q2) p2] [] p3) p4) env) Q E s:=by
 have t0:=fs.pre.gr.tab
 have hlim:lim=1000000:=rfl
 refine wpAny_Assign_Name ?_ (by rfl)
 refine Call_Name rfl (ne (E_global fs.pre hkf c3.hm c3.db ?_))
 refine callWith_function (o:=o) (fd:=docDef f fn.params fn.body fn.scope pm code doc) (evalArgs_plain (spliced_cons (wpAny_BinOp (ne (fresh_hidden S' a1 F1 fs h11 h12 ok1 hc1 kO fun v1 hs1 s1 kp1 fs1 rv1 ll1 hn1 nd1=>ne (ldVar fs1 hy hyd.1 hyd.2 fun v2 rv2=> ?_))))))
 have l1e:(opqs hs1).length=xs1.length:=by rw[List.length_map,ll1.append_inv,List.length_map]
 have l2e:(opqs hs2).length=xs2.length:=by rw[List.length_map,ll2.append_inv,List.length_map]
 refine ne (bin_sound (a:= .list (opqs hs1)) (b:= .list (opqs hs2)) (d:= .list (opqs hs1++opqs hs2)) fs1.pre.hP fs1.pre.lt (by
  show (if (opqs hs1).length+(opqs hs2).length≤lim then some (D.list (opqs hs1++opqs hs2)) else none)=_
  rw[if_pos kO]) rv1 rv2 fun v3 s3 kp3 rv3=>spliced_nil ⟨⟨(fs1.kp kp3).pre.gr.keep _ _ c3.ho,c3.hd⟩,?_⟩)
 have fs3:FS C m k A env ((hs1++hs2)++Y) OL l s3:=by rw[List.append_assoc];exact fs1.kp kp3
 have hex2:=ll2.ex
 have hdis:∀a∈hs1,∀b∈hs2,a≠b:=fun a ha b hb e=>by
  obtain⟨oo,h⟩:=hex2 b hb
  rw[←e,hn1 a ha] at h;cases h
 have hnY1:∀a∈hs1,a∉Y:=fun a ha hm=>by
  obtain⟨oo,h⟩:=fs.pre.hYs a (zmr _ (zmr _ hm))
  rw[hn1 a ha] at h;cases h
 have nP1:∀a∈hs1,a≠C.P:=fun a ha e=>hnY1 a ha (e▸hP)
 have nP2:∀a∈hs2,a≠C.P:=fun a ha e=>hnY2 a ha (e▸hP)
 have hnd:(hs1++hs2).Nodup:=List.nodup_append.mpr ⟨nd1,nd2,fun a ha b hb=>hdis a ha b hb⟩
 have ll:LL C s3.heap (hs1++hs2) (strLists (xs1++xs2)):=by
  rw[strLists,List.map_append]
  exact LL.append (ll2.keep fun a ha o e=>kp3.heap (nP2 a ha) (kp1.heap (nP2 a ha) e)) (ll1.keep fun a ha o e=>kp3.heap (nP1 a ha) e)
 have hlen:(hs1++hs2).length=(xs1++xs2).length:=by
  have:=ll.append_inv
  rw[this,List.length_map]
 obtain⟨N,hrun⟩:=run (hs1++hs2) hnd hlen
 have rv3':RD C s3.heap (olA OL++((hs1++hs2)++Y)) v3 (.list (opqs (hs1++hs2))):=by
  rw[opqs,List.map_append,List.append_assoc]
  exact rv3
 refine merge_call S c3.hf c3.ho c3.hd c3.hc room fs3 c3.start rv3' hnd ll (fun a ha=>(zapp.mp ha).elim (hnY1 a) (hnY2 a)) hP cY wY (hout.imp id fun h=> ?_) hrun fun v4 s4 kw4 fs4 rv4=> ?_
 ·have:=hlen
  rw[h] at this
  exact List.length_eq_zero_iff.mp this
 ·refine ne (fs4.assign hx rv4 fun s5 kw5 fs5=>q s5 ?_ fs5)
  have kwa:KW C (fun b=>ZO OL env b∨b∈hs2) s s4:=(KP.kw (kp1.trans kp3) (Z:=fun b=>ZO OL env b∨b∈hs2)).transNew kw4 fun b hb=>by
   rcases zapp.mp hb with hb|hb
   ·exact .inr (hn1 b hb)
   ·exact .inl (.inr hb)
  exact kwa.trans (kw5.mono fun b hb=> .inl hb)
end
def fnsAll(p:Program):List (Str×Fn):=p.main.body.filterMap fun s=>match s with
 | .FunctionDef name args body _ _ _ scope _ _ _=>some (name,⟨args,body,scope⟩)
 |_=>none
def fn0:Fn:=⟨⟨[],[],none,[],[],none,[]⟩,[],⟨.function,[],false,false,[]⟩⟩
def fnAt(p:Program)(f:Str):Fn:=((fnsAll p).lookup f).getD fn0
def putTarget:List Stmt→Expr
 |[_,_,_,.Assign [.Subscript _ i _] _ _,_]=>i
 |_=> .Constant .none 0 ⟨0,0,0,0⟩
def giveSlice:List Stmt→Expr
 |[_,_,_,_,.Return (some (.Tuple [_,e,_] _ _)) _]=>e
 |_=> .Constant .none 0 ⟨0,0,0,0⟩
def c3First:List Stmt→Stmt
 |s::_=>s
 |_=> .Pass ⟨0,0,0,0⟩
def c3Mid:List Stmt→List Stmt
 |[_,.While _ b _ _]=>b.take 5
 |_=>[]
def posH1:List Pos:=[⟨131,4,131,8⟩,⟨131,10,131,17⟩,⟨131,19,131,26⟩,⟨131,4,131,26⟩,⟨131,29,131,34⟩,⟨131,4,131,34⟩,⟨133,16,133,20⟩,⟨133,22,133,29⟩,⟨133,33,133,41⟩,⟨133,42,133,47⟩,⟨133,33,133,48⟩,⟨133,32,133,49⟩,⟨133,22,133,49⟩,⟨133,51,133,58⟩,⟨133,15,133,59⟩,⟨133,8,133,59⟩,⟨134,11,134,22⟩,⟨135,8,135,13⟩,⟨135,16,135,19⟩,⟨135,20,135,25⟩,⟨135,16,135,26⟩,⟨135,8,135,26⟩,⟨134,4,135,26⟩,⟨132,4,135,26⟩,⟨137,8,137,13⟩,⟨137,16,137,24⟩,⟨137,25,137,30⟩,⟨137,33,137,39⟩,⟨137,41,137,43⟩,⟨137,32,137,44⟩,⟨137,16,137,45⟩,⟨137,8,137,45⟩,⟨138,11,138,22⟩,⟨139,16,139,20⟩,⟨139,22,139,29⟩,⟨139,31,139,38⟩,⟨139,42,139,47⟩,⟨139,50,139,53⟩,⟨139,54,139,59⟩,⟨139,50,139,60⟩,⟨139,42,139,60⟩,⟨139,41,139,61⟩,⟨139,31,139,61⟩,⟨139,15,139,62⟩,⟨139,8,139,62⟩,⟨138,4,139,62⟩,⟨140,11,140,22⟩,⟨141,16,141,20⟩,⟨141,22,141,29⟩,⟨141,31,141,38⟩,⟨141,42,141,45⟩,⟨141,46,141,51⟩,⟨141,42,141,52⟩,⟨141,41,141,53⟩,⟨141,31,141,53⟩,⟨141,15,141,54⟩,⟨141,8,141,54⟩,⟨140,4,141,54⟩,⟨136,4,141,54⟩,⟨142,4,142,8⟩,⟨142,4,142,20⟩,⟨142,23,142,28⟩,⟨142,4,142,28⟩,⟨143,12,143,16⟩,⟨143,31,143,38⟩,⟨143,11,143,39⟩,⟨143,4,143,39⟩]
def heard1:Fn:=fnAt Challenge.pw_oy0159_01 "_law_heard"
theorem hrd1:HrdFn heard1 "waiting" "refused" (putTarget heard1.body) (giveSlice heard1.body) where
 ok:=kR
 names:=kR
 loc:=by decide+kernel
 glb:=by decide+kernel
 ne1:=by decide+kernel
 ne2:=by decide+kernel
 dbg:=by decide+kernel
 shape:=⟨fun k=>posH1.getD k ⟨0,0,0,0⟩,kR,kR⟩
def posC1:List Pos:=[⟨17,10,17,14⟩,⟨32,12,32,15⟩,⟨32,19,32,28⟩,⟨33,15,33,18⟩,⟨33,19,33,20⟩,⟨33,15,33,21⟩,⟨33,25,33,34⟩,⟨33,15,33,34⟩,⟨34,20,34,23⟩,⟨34,24,34,25⟩,⟨34,20,34,26⟩,⟨34,16,34,26⟩,⟨33,12,34,26⟩,⟨32,8,34,26⟩,⟨17,4,34,26⟩]
def merge1:Fn:=fnAt Challenge.pw_oy0159_01 "_c3_merge"
theorem c3f1:C3Fn merge1 (c3First merge1.body) (c3Mid merge1.body) where
 ok:=kR
 names:=kR
 seq:=kR
 shape:=⟨fun k=>posC1.getD k ⟨0,0,0,0⟩,kR⟩
theorem c3start1(fns:List (Str×Fn))(glob:List (Str×D))(n:Nat):∀l:LocB,∃l1,Ssl (ev fns glob (n+2)) false merge1.scope l [c3First merge1.body]=some (.next,l1)∧l1 "result"=some (.own [])∧∀y:Str,y≠"result"→l1 y=l y:=by
 intro l
 refine⟨setL l "result" (.own []),by rfl,by unfold setL;rw[if_pos rfl],fun y hy=>by unfold setL;rw[if_neg hy]⟩
section
variable{r:Ev}{k:Bool}{sc:Scope}{l:Loc}{g:Comprehension}{deep:Loc→Option (List D)}
theorem compLoop_map{α:Type}(f:α→D)(t:α→Bool)(e:α→List D)(xs:List α)(h:∀x∈xs,∃l',bindT l g.target (f x)=some l'∧testAll r k sc l' g.ifs=some (t x)∧(t x=true→deep l'=some (e x))):
  compLoop r k sc l g deep (xs.map f)=some (xs.flatMap fun x=>if t x then e x else []):=by
 induction xs with
 |nil=>rfl
 |cons x xs ih=>
  obtain⟨l',h1,h2,h3⟩:=h x zmS
  have ih:=ih fun y hy=>h y (zmC _ hy)
  show (do
   let l'←bindT l g.target (f x)
   let ok←testAll r k sc l' g.ifs
   let here←if ok then deep l' else some []
   let more←compLoop r k sc l g deep (xs.map f)
   some (here++more))=_
  rw[h1,ih]
  cases ht:t x with
  |true=>
   rw[ht] at h2
   simp[h2,h3 ht,ht]
  |false=>
   rw[ht] at h2
   simp[h2,ht]
end
section
variable{fns:List (Str×Fn)}{glob:List (Str×D)}{k:Bool}{sc csc:Scope}{l:Loc}{g:Comprehension}{gs:List Comprehension}{elt:Expr}{pos:Pos}{n:Nat}
theorem evComp{α:Type}(f:α→D)(t:α→Bool)(e:α→D)(xs:List α)(hit:(ev fns glob n).E k sc l g.iter=some (.list (xs.map f)))(ok:okComp sc csc [g]=true)
  (h:∀x∈xs,∃l',bindT (compLoc csc l) g.target (f x)=some l'∧testAll (ev fns glob n) k (ownSc sc csc) l' g.ifs=some (t x)∧(t x=true→(ev fns glob n).E k (ownSc sc csc) l' elt=some (e x))) (hl:xs.length≤lim):
  (ev fns glob (n+1)).E k sc l (.ListComp elt [g] csc pos)=some (.list ((xs.filter t).map e)):=by
 have h1:compLoop (ev fns glob n) k (ownSc sc csc) (compLoc csc l) g (fun l'=>((ev fns glob n).E k (ownSc sc csc) l' elt).map fun x=>[x]) (xs.map f)=some (xs.flatMap fun x=>if t x then [e x] else []):=by
  refine compLoop_map f t (fun x=>[e x]) xs fun x hx=> ?_
  obtain⟨l',a,b,c⟩:=h x hx
  exact⟨l',a,b,fun ht=>by rw[c ht];rfl⟩
 have h2:(xs.flatMap fun x=>if t x then [e x] else [])=(xs.filter t).map e:=by
  clear h h1 hit hl
  induction xs with
  |nil=>rfl
  |cons x xs ih=>
   rw[List.flatMap_cons,ih]
   cases ht:t x with
   |true=>simp[List.filter_cons,ht]
   |false=>simp[List.filter_cons,ht]
 rw[h2] at h1
 have hlen:((xs.filter t).map e).length≤lim:=by
  rw[List.length_map]
  exact znT (List.length_filter_le _ _) hl
 show (do
   let its←((ev fns glob n).E k sc l g.iter).bind iterD
   if okComp sc csc [g]=true then
    let ds←comp (ev fns glob n) k (ownSc sc csc) (fun l'=>(ev fns glob n).E k (ownSc sc csc) l' elt) [g] (compLoc csc l) its
    if ds.length≤lim then some (D.list ds) else none
   else none)=_
 rw[hit]
 show (if okComp sc csc [g]=true then (do
       let ds←compLoop (ev fns glob n) k (ownSc sc csc) (compLoc csc l) g (fun l'=>((ev fns glob n).E k (ownSc sc csc) l' elt).map fun x=>[x]) (xs.map f)
       if ds.length≤lim then some (D.list ds) else none) else none)=_
 rw[if_pos ok,h1]
 show (if ((xs.filter t).map e).length≤lim then some (D.list ((xs.filter t).map e)) else none)=_
 rw[if_pos hlen]
end
def sSc:Scope:={ kind:= .function,names:=[(".0",.local),("s",.local)],isGenerator:=false,isCoroutine:=false,more:=[] }
def midS(p:Nat→Pos):List Stmt:=[
 .Assign [.Name "sequences" (p 0)] (.ListComp (.Name "s" (p 1)) [⟨.Name "s" (p 2),.Name "sequences" (p 3),[.Name "s" (p 4)],0⟩] sSc (p 5)) (p 6),
 .If (.UnaryOp .Not (.Name "sequences" (p 7)) (p 8)) [.Return (some (.Name "result" (p 9))) (p 10)] [] (p 11),
 .For (.Name "s1" (p 12)) (.Name "sequences" (p 13)) [
  .Assign [.Name "candidate" (p 14)] (.Subscript (.Name "s1" (p 15)) (.Constant (.int 0) 0 (p 16)) (p 17)) (p 18),
  .For (.Name "s2" (p 19)) (.Name "sequences" (p 20)) [
   .If (.Compare (.Name "candidate" (p 21)) [.In] [.Subscript (.Name "s2" (p 22)) (.Slice (some (.Constant (.int 1) 0 (p 23))) none none (p 24)) (p 25)] (p 26))
    [.Assign [.Name "candidate" (p 27)] (.Constant .none 0 (p 28)) (p 29),.Break (p 30)] [] (p 31)] [.Break (p 32)] (p 33)] [] (p 34),
 .If (.Compare (.Name "candidate" (p 35)) [.Is] [.Constant .none 0 (p 36)] (p 37)) [.Raise (some (.Call (.Name "RuntimeError" (p 38)) [.Constant (.str "Inconsistent hierarchy") 0 (p 39)] [] (p 40))) none (p 41)] [] (p 42),
 .Expr (.Call (.Attribute (.Name "result" (p 43)) "append" (p 44)) [.Name "candidate" (p 45)] [] (p 46)) (p 47)]
def posM1:List Pos:=[⟨18,8,18,17⟩,⟨18,21,18,22⟩,⟨18,27,18,28⟩,⟨18,32,18,41⟩,⟨18,45,18,46⟩,⟨18,20,18,47⟩,⟨18,8,18,47⟩,⟨19,15,19,24⟩,⟨19,11,19,24⟩,⟨20,19,20,25⟩,⟨20,12,20,25⟩,⟨19,8,20,25⟩,⟨21,12,21,14⟩,⟨21,18,21,27⟩,⟨22,12,22,21⟩,⟨22,24,22,26⟩,⟨22,27,22,28⟩,⟨22,24,22,29⟩,⟨22,12,22,29⟩,⟨23,16,23,18⟩,⟨23,22,23,31⟩,⟨24,19,24,28⟩,⟨24,32,24,34⟩,⟨24,35,24,36⟩,⟨24,35,24,37⟩,⟨24,32,24,38⟩,⟨24,19,24,38⟩,⟨25,20,25,29⟩,⟨25,32,25,36⟩,⟨25,20,25,36⟩,⟨26,20,26,25⟩,⟨24,16,26,25⟩,⟨28,16,28,21⟩,⟨23,12,28,21⟩,⟨21,8,28,21⟩,⟨29,11,29,20⟩,⟨29,24,29,28⟩,⟨29,11,29,28⟩,⟨30,18,30,30⟩,⟨30,31,30,55⟩,⟨30,18,30,56⟩,⟨30,12,30,56⟩,⟨29,8,30,56⟩,⟨31,8,31,14⟩,⟨31,8,31,21⟩,⟨31,22,31,31⟩,⟨31,8,31,32⟩,⟨31,8,31,32⟩]
theorem mid1:c3Mid merge1.body=midS (fun k=>posM1.getD k ⟨0,0,0,0⟩):=kR
section
variable{fns:List (Str×Fn)}{glob:List (Str×D)}{k:Bool}{sc:Scope}{l:LocB}{n:Nat}
theorem evName{x:Str}{p:Pos}{l:Loc}(h1:(x==("__debug__":Str)||x==("__classdict__":Str))=false)(hk:sc.names.lookup x=some .local∨sc.names.lookup x=some .cell∨sc.names.lookup x=some .free):(ev fns glob (n+1)).E k sc l (.Name x p)=l x:=by
 show (if (x==("__debug__":Str)||x==("__classdict__":Str))=true then none else match sc.names.lookup x with
  |some .local=>l x
  |some .cell=>l x
  |some .free=>l x
  |some .globalImplicit=>if (fns.lookup x).isSome=true then none else glob.lookup x
  |_=>none)=l x
 rw[h1]
 rcases hk with hk|hk|hk <;> rw[hk] <;> rfl
theorem mid_comp{hs:List Addr}{cur:Addr→List Str}{p1 p2 p3 p4 p5 p6:Pos}(hk:sc.names.lookup ("sequences":Str)=some .local)(ok:okComp sc sSc [⟨.Name "s" p2,.Name "sequences" p3,[.Name "s" p4],0⟩]=true)
  (hl:l "sequences"=some (.val (.list (lrefs hs cur)))) (hlen:hs.length≤lim) (hcl:∀a∈hs,(cur a).length≤lim):
  (ev fns glob (n+3)).E false sc (purL l) (.ListComp (.Name "s" p1) [⟨.Name "s" p2,.Name "sequences" p3,[.Name "s" p4],0⟩] sSc p5)=some (.list (lrefs (hs.filter fun a=> !(cur a).isEmpty) cur)):=by
 have hos:(ownSc sc sSc).names.lookup ("s":Str)=some .local:=by rfl
 refine evComp (fun a=>D.lref a ((cur a).map .str)) (fun a=> !(cur a).isEmpty) (fun a=>D.lref a ((cur a).map .str)) hs ?_ ok (fun a ha=> ?_) hlen
 ·show (ev fns glob (n+2)).E false sc (purL l) (.Name "sequences" p3)=_
  rw[evName kD (.inl hk)]
  unfold purL;rw[hl]
 ·refine⟨setL (compLoc sSc (purL l)) "s" (.lref a ((cur a).map .str)),?_,?_,fun _=> ?_⟩
  ·show (if (compLoc sSc (purL l) "s").isSome=true then none else some (setL (compLoc sSc (purL l)) "s" (D.lref a ((cur a).map .str))))=_
   rw[if_neg]
   unfold compLoc
   rw[if_neg kD]
   simp
  ·show ((ev fns glob (n+2)).E false (ownSc sc sSc) (setL (compLoc sSc (purL l)) "s" (.lref a ((cur a).map .str))) (.Name "s" p4)).bind truD=_
   rw[evName kD (.inl hos)]
   unfold setL
   rw[if_pos rfl]
   show (if ((cur a).map D.str).length≤lim then some (!((cur a).map D.str).isEmpty) else none)=_
   rw[if_pos (by simpa using hcl a ha)]
   simp
  ·rw[evName kD (.inl hos)]
   unfold setL
   rw[if_pos rfl]
end
def headOk(seqs:List (List Str))(c:Str):Bool:=seqs.all fun s=> !(s.drop 1).contains c
def pickHead(seqs:List (List Str)):List (List Str)→Option Str
 |[]=>none
 |s::rest=>match s.head? with
  |some c=>if headOk seqs c then some c else pickHead seqs rest
  |none=>none
def mergeP:Nat→List (List Str)→Option (List Str)
 |0,_=>none
 |n+1,seqs=>
  let live:=seqs.filter fun s=> !s.isEmpty
  if live.isEmpty then some [] else match pickHead live live with
   |none=>none
   |some c=>(mergeP n (live.map fun s=>if s.head? =some c then s.tail else s)).map (c::·)
structure Ord(R:Str→Str→Prop):Prop where
 irr:∀x,¬R x x
 tr:∀x y z,R x y→R y z→R x z
theorem Ord.min{R:Str→Str→Prop}(O:Ord R):∀l:List Str,l≠[]→∃m∈l,∀x∈l,¬R x m
 |[],h=>absurd rfl h
 |[a],_=>⟨a,zmS,fun x hx=>by simp at hx;subst hx;exact O.irr _⟩
 |a::b::l,_=>by
  obtain⟨m,hm,h⟩:=O.min (b::l) (by simp)
  by_cases e:R a m
  ·refine⟨a,zmS,fun x hx hxa=> ?_⟩
   rcases zcon.mp hx with rfl|hx
   ·exact O.irr _ hxa
   ·exact h x hx (O.tr _ _ _ hxa e)
  ·refine⟨m,zmC _ hm,fun x hx=> ?_⟩
   rcases zcon.mp hx with rfl|hx
   ·exact e
   ·exact h x hx
theorem pick_some{seqs:List (List Str)}:∀(rest:List (List Str)),(∀s∈rest,s≠[])→(∃s∈rest,∃c,s.head? =some c∧headOk seqs c=true)→∃c,pickHead seqs rest=some c∧headOk seqs c=true∧∃s∈rest,s.head? =some c
 |[],_,⟨s,hs,_⟩=>by cases hs
 |s::rest,hne,⟨t,ht,c,h1,h2⟩=>by
  have hs:=hne s zmS
  obtain⟨d,ds,rfl⟩:∃d ds,s=d::ds:=by
   cases s with
   |nil=>exact absurd rfl hs
   |cons d ds=>exact⟨d,ds,rfl⟩
  unfold pickHead
  show∃c,(if headOk seqs d=true then some d else pickHead seqs rest)=some c∧_
  by_cases e:headOk seqs d=true
  ·rw[if_pos e]
   exact⟨d,rfl,e,_,zmS,rfl⟩
  ·rw[if_neg e]
   rcases zcon.mp ht with rfl|ht
   ·have h1:some d=some c:=h1
    cases h1
    exact absurd h2 e
   ·obtain⟨c',g1,g2,u,hu,g3⟩:=pick_some rest (fun s hs=>hne s (zmC _ hs)) ⟨t,ht,c,h1,h2⟩
    exact⟨c',g1,g2,u,zmC _ hu,g3⟩
def total(seqs:List (List Str)):Nat:=(seqs.map List.length).sum
theorem total_filter:∀seqs:List (List Str),total (seqs.filter fun s=> !s.isEmpty)=total seqs
 |[]=>rfl
 |s::seqs=>by
  have ih:=total_filter seqs
  unfold total at ih ⊢
  cases s with
  |nil=>rw[List.filter_cons_of_neg (by simp)];simpa using ih
  |cons a s=>rw[List.filter_cons_of_pos (by simp),List.map_cons,List.map_cons,List.sum_cons,List.sum_cons,ih]
theorem total_drop(c:Str):∀seqs:List (List Str),total (seqs.map fun s=>if s.head? =some c then s.tail else s)≤total seqs∧((∃s∈seqs,s.head? =some c)→total (seqs.map fun s=>if s.head? =some c then s.tail else s)<total seqs)
 |[]=>⟨Nat.le_refl _,fun⟨s,hs,_⟩=>by cases hs⟩
 |s::seqs=>by
  obtain⟨i1,i2⟩:=total_drop c seqs
  unfold total at *
  simp only[List.map_cons,List.sum_cons]
  by_cases e:s.head? =some c
  ·rw[if_pos e]
   have:s.tail.length+1=s.length:=by
    cases s with
    |nil=>cases e
    |cons a s=>rfl
   exact⟨by omega,fun _=>by omega⟩
  ·rw[if_neg e]
   refine⟨by omega,fun⟨t,ht,h⟩=> ?_⟩
   rcases zcon.mp ht with rfl|ht
   ·exact absurd h e
   ·have:=i2 ⟨t,ht,h⟩;omega
theorem merge_spec{R:Str→Str→Prop}(O:Ord R):∀(m:Nat) (seqs:List (List Str)),total seqs<m→(∀s∈seqs,s.Pairwise R)→
  ∃out,mergeP m seqs=some out∧out.Nodup∧(∀z,z∈out↔∃s∈seqs,z∈s)∧∀s∈seqs,s.Sublist out
 |0,_,h,_=>absurd h (Nat.not_lt_zero _)
 |m+1,seqs,h,hR=>by
  unfold mergeP
  dsimp only
  have ht:=total_filter seqs
  have hlive:∀s∈seqs.filter (fun s=> !s.isEmpty),s∈seqs∧s≠[]:=fun s hs=>by
   obtain⟨h1,h2⟩:=zfil.mp hs
   exact⟨h1,fun e=>by rw[e] at h2;cases h2⟩
  have hout:∀s∈seqs,s∉seqs.filter (fun s=> !s.isEmpty)→s=[]:=fun s hs hn=>by
   cases s with
   |nil=>rfl
   |cons a s=>exact absurd (zfil.mpr ⟨hs,rfl⟩) hn
  generalize hl:seqs.filter (fun s=> !s.isEmpty)=live at *
  by_cases he:live=[]
  ·subst he
   have hall:∀s∈seqs,s=[]:=fun s hs=>hout s hs (by simp)
   refine⟨[],rfl,List.nodup_nil,fun z=> ?_,fun s hs=>by rw[hall s hs];exact List.Sublist.refl _⟩
   constructor
   ·intro hz;cases hz
   ·rintro ⟨s,hs,hz⟩
    rw[hall s hs] at hz;cases hz
  ·have hemp:live.isEmpty=false:=by
    cases live with
    |nil=>exact absurd rfl he
    |cons a r=>rfl
   rw[hemp]
   simp only[Bool.false_eq_true,if_false]
   have hheads:live.filterMap List.head? ≠[]:=by
    cases live with
    |nil=>exact absurd rfl he
    |cons a r=>
     cases a with
     |nil=>exact absurd rfl (hlive [] zmS).2
     |cons x a=>simp
   obtain⟨c0,hc0,hmin⟩:=O.min _ hheads
   obtain⟨s0,hs0,hh0⟩:=List.mem_filterMap.mp hc0
   have hok0:headOk live c0=true:=by
    unfold headOk
    rw[List.all_eq_true]
    intro t ht'
    cases t with
    |nil=>rfl
    |cons d t=>
     simp only[List.drop_succ_cons,List.drop_zero,Bool.not_eq_true',List.contains_eq_mem,decide_eq_false_iff_not]
     intro hm
     have hp:=List.rel_of_pairwise_cons (hR _ (hlive _ ht').1) hm
     exact hmin d (List.mem_filterMap.mpr ⟨d::t,ht',rfl⟩) hp
   obtain⟨c,g1,g2,s1,hs1,g3⟩:=pick_some (seqs:=live) live (fun s hs=>(hlive s hs).2) ⟨s0,hs0,c0,hh0,hok0⟩
   rw[g1]
   have hnt:∀s∈live,c∉s.tail:=fun s hs hm=>by
    have:=List.all_eq_true.mp g2 s hs
    rw[List.drop_one] at this
    simp at this
    exact this hm
   have hlt:=(total_drop c live).2 ⟨s1,hs1,g3⟩
   have hR':∀s∈live.map (fun s=>if s.head? =some c then s.tail else s),s.Pairwise R:=fun s hs=>by
    obtain⟨t,ht',rfl⟩:=zmap.mp hs
    have hp:=hR t (hlive t ht').1
    split
    ·cases t with
     |nil=>exact hp
     |cons d t=>exact(List.pairwise_cons.mp hp).2
    ·exact hp
   obtain⟨out,k1,k2,k3,k4⟩:=merge_spec O m (live.map fun s:List Str=>if s.head? =some c then s.tail else s) kO hR'
   have hcn:c∉out:=fun hm=>by
    obtain⟨s,hs,hz⟩:=(k3 c).mp hm
    obtain⟨t,ht',rfl⟩:=zmap.mp hs
    split at hz
    ·exact hnt t ht' hz
    ·rename_i hne
     cases t with
     |nil=>cases hz
     |cons d t=>
      rcases zcon.mp hz with rfl|hz
      ·exact hne rfl
      ·exact hnt _ ht' hz
   refine⟨c::out,by show (mergeP m _).map (c::·)=_;rw[k1];rfl,znco.mpr ⟨hcn,k2⟩,fun z=> ?_,fun s hs=> ?_⟩
   ·constructor
    ·intro hz
     rcases zcon.mp hz with rfl|hz
     ·refine⟨s1,(hlive s1 hs1).1,?_⟩
      cases s1 with
      |nil=>cases g3
      |cons d t=>
       have:some d=some z:=g3
       cases this
       exact zmS
     ·obtain⟨s,hs,hz⟩:=(k3 z).mp hz
      obtain⟨t,ht',rfl⟩:=zmap.mp hs
      refine⟨t,(hlive t ht').1,?_⟩
      split at hz
      ·exact List.mem_of_mem_tail hz
      ·exact hz
    ·rintro ⟨s,hs,hz⟩
     have hsl:s∈live:=Classical.byContradiction fun hn=>by rw[hout s hs hn] at hz;cases hz
     by_cases e:z=c
     ·rw[e];exact zmS
     ·refine zmC _ ((k3 z).mpr ⟨_,List.mem_map_of_mem hsl,?_⟩)
      split
      ·cases s with
       |nil=>cases hz
       |cons d t=>
        rename_i h
        have:some d=some c:=h
        cases this
        rcases zcon.mp hz with rfl|hz
        ·exact absurd rfl e
        ·exact hz
      ·exact hz
   ·by_cases hsl:s∈live
    ·have:=k4 _ (List.mem_map_of_mem (f:=fun s:List Str=>if s.head? =some c then s.tail else s) hsl)
     split at this
     ·cases s with
      |nil=>exact List.nil_sublist _
      |cons d t=>
       rename_i h
       have h:some d=some c:=h
       cases h
       exact List.Sublist.cons_cons _ this
     ·exact List.Sublist.cons _ this
    ·rw[hout s hs hsl]
     exact List.nil_sublist _
theorem range_pick{α:Type}(ds:List α):∀(n a:Nat),a+n≤ds.length→((List.range n).map fun k=>a+k).filterMap (ds[·]?)=(ds.drop a).take n
 |0,a,_=>by simp
 |n+1,a,h=>by
  rw[List.range_succ,List.map_append,List.filterMap_append,range_pick ds n a kO,List.take_add_one,List.getElem?_drop]
  have:a+n<ds.length:=by omega
  simp[this]
theorem pick_from(ds:List D)(a:Nat):pick ds (some (a:Int)) none none=ds.drop a:=by
 have h1:(sliceBounds (some (a:Int)) none none ds.length)=(((min a ds.length:Nat):Int),(ds.length:Int),1):=by
  unfold sliceBounds
  simp
  omega
 unfold pick
 rw[h1]
 have h2:sliceRange ((min a ds.length:Nat):Int) (ds.length:Int) 1=(List.range (ds.length - min a ds.length)).map fun k=>min a ds.length+k:=by
  unfold sliceRange
  simp only[show (1:Int) > 0 by omega,if_true]
  by_cases h:((min a ds.length:Nat):Int)<(ds.length:Int)
  ·rw[if_pos h]
   have:(((ds.length:Int) - ((min a ds.length:Nat):Int)+1 - 1) / 1).toNat=ds.length - min a ds.length:=by omega
   rw[this]
   refine List.map_congr_left fun k _=> ?_
   omega
  ·rw[if_neg h]
   have:ds.length - min a ds.length=0:=by omega
   rw[this];rfl
 rw[h2,range_pick ds _ _ kO]
 by_cases h:a≤ds.length
 ·rw[show min a ds.length=a by omega,List.take_of_length_le (by simp)]
 ·rw[show min a ds.length=ds.length by omega,List.drop_of_length_le (by omega:ds.length≤a)]
  simp
theorem pick_to(ds:List D)(b:Nat):pick ds none (some (b:Int)) none=ds.take b:=by
 have h1:(sliceBounds none (some (b:Int)) none ds.length)=(0,((min b ds.length:Nat):Int),1):=by
  unfold sliceBounds
  simp
  omega
 unfold pick
 rw[h1]
 have h2:sliceRange 0 ((min b ds.length:Nat):Int) 1=(List.range (min b ds.length)).map fun k=>0+k:=by
  unfold sliceRange
  simp only[show (1:Int) > 0 by omega,if_true]
  by_cases h:(0:Int)<((min b ds.length:Nat):Int)
  ·rw[if_pos h]
   have:((((min b ds.length:Nat):Int) - 0+1 - 1) / 1).toNat=min b ds.length:=by omega
   rw[this]
   refine List.map_congr_left fun k _=> ?_
   omega
  ·rw[if_neg h]
   have:min b ds.length=0:=by omega
   rw[this];rfl
 rw[h2,range_pick ds _ _ kO]
 rw[List.drop_zero]
 by_cases h:b≤ds.length
 ·rw[show min b ds.length=b by omega]
 ·rw[show min b ds.length=ds.length by omega,List.take_of_length_le nL,List.take_of_length_le kO]
theorem inD_strs(c:Str)(xs:List Str):inD (.str c) (.list (xs.map .str))=some (xs.contains c):=by
 have h1:(xs.map D.str).all (fun y=>D.like y (.str c)&&decide (D.dep y≤20))=true:=by
  rw[List.all_eq_true]
  intro y hy
  obtain⟨x,_,rfl⟩:=zmap.mp hy
  simp[D.like,D.dep]
 have h2:(xs.map D.str).any (fun y=>D.beq y (.str c))=xs.contains c:=by
  induction xs with
  |nil=>rfl
  |cons x xs ih=>
   rw[List.map_cons,List.any_cons,List.contains_cons,ih (by
    rw[List.map_cons,List.all_cons,Bool.and_eq_true] at h1
    exact h1.2)]
   congr 1
   show (x==c)=(c==x)
   exact BEq.comm
 show (if (xs.map D.str).all (fun y=>D.like y (.str c)&&decide (D.dep y≤20))=true then some ((xs.map D.str).any (fun y=>D.beq y (.str c))) else none)=_
 rw[if_pos h1,h2]
section
variable{fns:List (Str×Fn)}{glob:List (Str×D)}{k:Bool}{sc:Scope}{l:LocB}{n:Nat}
theorem ev_slice1{x:Str}{a:Addr}{xs:List Str}{p1 p2 p3 p4:Pos}{l:Loc}(h1:(x==("__debug__":Str)||x==("__classdict__":Str))=false)(hk:sc.names.lookup x=some .local)(hl:l x=some (.lref a (xs.map .str)))(hlen:xs.length≤lim):
  (ev fns glob (n+2)).E k sc l (.Subscript (.Name x p1) (.Slice (some (.Constant (.int 1) 0 p2)) none none p3) p4)=some (.list (xs.tail.map .str)):=by
 show (((ev fns glob (n+1)).E k sc l (.Name x p1)).bind fun d=>(partD (ev fns glob (n+1)) k sc l (some (.Constant (.int 1) 0 p2))).bind fun lo=>(partD (ev fns glob (n+1)) k sc l none).bind fun hi=>(partD (ev fns glob (n+1)) k sc l none).bind fun st=>match d.flat with
   | .list ds=>if st≠some 0∧ds.length≤lim then some (D.list (pick ds lo hi st)) else none
   | .str x=>if st=none∧x.length≤lim then some (D.str (Txt.slice x lo hi)) else none
   |_=>none)=_
 rw[evName h1 (.inl hk),hl]
 show (if (none:Option Int)≠some 0∧(xs.map D.str).length≤lim then some (D.list (pick (xs.map D.str) (some 1) none none)) else none)=_
 rw[if_pos ⟨by simp,by simpa using hlen⟩]
 have:=pick_from (xs.map D.str) 1
 rw[show ((1:Nat):Int)=1 from rfl] at this
 rw[this]
 cases xs <;> rfl
end
section
variable{fns:List (Str×Fn)}{glob:List (Str×D)}{r:Ev}{k:Bool}{sc csc:Scope}{l l1 l':LocB}{s:Stmt}{ss:List Stmt}{f:Fl}{n:Nat}
theorem Ssl_nil:Ssl r k sc l []=some (.next,l):=by unfold Ssl;rfl
theorem Ssl_next(h:r.S k sc l s=some (.next,l1)):Ssl r k sc l (s::ss)=Ssl r k sc l1 ss:=by
 conv=>lhs;unfold Ssl
 rw[h];rfl
theorem Ssl_ret{d:D}(h:r.S k sc l s=some (.ret d,l1)):Ssl r k sc l (s::ss)=some (.ret d,l1):=by
 conv=>lhs;unfold Ssl
 rw[h];rfl
theorem Ssl_brk(h:r.S k sc l s=some (.brk,l1)):Ssl r k sc l (s::ss)=some (.brk,l1):=by
 conv=>lhs;unfold Ssl
 rw[h];rfl
theorem Ssl_exc{c:Str}{d:D}(h:r.S k sc l s=some (.exc c d,l1)):Ssl r k sc l (s::ss)=some (.exc c d,l1):=by
 conv=>lhs;unfold Ssl
 rw[h];rfl
theorem R_next{d:D}(h:r.S k sc l s=some (.next,l1))(h2:(Ssl r k sc l1 ss).bind retOf=some d):(Ssl r k sc l (s::ss)).bind retOf=some d:=by rw[Ssl_next h];exact h2
theorem R_ret{d:D}(h:r.S k sc l s=some (.ret d,l1)):(Ssl r k sc l (s::ss)).bind retOf=some d:=by rw[Ssl_ret h];rfl
theorem S_assign{x:Str}{p q:Pos}{e:Expr}{d:D}(hE:(ev fns glob n).E k sc (purL l) e=some d)(h1:okT sc (.Name x p)=true)(h2:mutNames.contains x=false):
  (ev fns glob (n+1)).S k sc l (.Assign [.Name x p] e q)=some (.next,setL l x (.val d)):=by
 show stepS (ev fns glob n) k n sc l (.Assign [.Name x p] e q)=_
 unfold stepS;dsimp only
 rw[h1,h2,hE]
 rfl
theorem S_assignOwn{x:Str}{p q:Pos}{e:Expr}{ds:List D}(hE:(ev fns glob n).E k sc (purL l) e=some (.list ds))(h1:okT sc (.Name x p)=true)(h2:mutNames.contains x=true)(h3:freshList e=true):
  (ev fns glob (n+1)).S k sc l (.Assign [.Name x p] e q)=some (.next,setL l x (.own ds)):=by
 show stepS (ev fns glob n) k n sc l (.Assign [.Name x p] e q)=_
 unfold stepS;dsimp only
 rw[h1,h2,hE,h3]
 rfl
theorem S_if{t:Expr}{a b:List Stmt}{p:Pos}{c:Bool}(h:Bt (ev fns glob n) k sc (allL l) 4 t=some c):(ev fns glob (n+1)).S k sc l (.If t a b p)=Ssl (ev fns glob n) k sc l (if c then a else b):=by
 show stepS (ev fns glob n) k n sc l (.If t a b p)=_
 unfold stepS;dsimp only
 rw[h]
 cases c <;> rfl
theorem S_ret{e:Expr}{p:Pos}{d:D}(h:(ev fns glob n).E k sc (allL l) e=some d):(ev fns glob (n+1)).S k sc l (.Return (some e) p)=some (.ret d,l):=by
 show stepS (ev fns glob n) k n sc l (.Return (some e) p)=_
 unfold stepS;dsimp only
 rw[h];rfl
theorem S_append{x:Str}{p q1 q2 q3:Pos}{a:Expr}{ds:List D}{d:D}(hl:l x=some (.own ds))(hE:(ev fns glob n).E k sc (purL l) a=some d)(h1:(q1.endLine==q2.line)=true)(h2:PySem.W.isStarred a=false)(h3:(x==("__debug__":Str))=false)(h4:(x==("__classdict__":Str))=false)(hlen:ds.length≤lim):
  (ev fns glob (n+1)).S k sc l (.Expr (.Call (.Attribute (.Name x p) "append" q1) [a] [] q2) q3)=some (.next,setL l x (.own (ds++[d]))):=by
 show stepS (ev fns glob n) k n sc l (.Expr (.Call (.Attribute (.Name x p) "append" q1) [a] [] q2) q3)=_
 unfold stepS;dsimp only
 rw[h1,h2,h3,h4,hl]
 show ((ev fns glob n).E k sc (purL l) a).bind (fun d=>if ds.length≤lim then some (Fl.next,setL l x (.own (ds++[d]))) else none)=_
 rw[hE]
 show (if ds.length≤lim then some (Fl.next,setL l x (.own (ds++[d]))) else none)=_
 rw[if_pos hlen]
theorem S_extend{x:Str}{p q1 q2 q3:Pos}{a:Expr}{ds es:List D}(hl:l x=some (.own ds))(hE:(ev fns glob n).E k sc (purL l) a=some (.list es))(h1:(q1.endLine==q2.line)=true)(h2:PySem.W.isStarred a=false)(h3:(x==("__debug__":Str))=false)(h4:(x==("__classdict__":Str))=false)(hlen:ds.length+es.length≤lim):
  (ev fns glob (n+1)).S k sc l (.Expr (.Call (.Attribute (.Name x p) "extend" q1) [a] [] q2) q3)=some (.next,setL l x (.own (ds++es))):=by
 show stepS (ev fns glob n) k n sc l (.Expr (.Call (.Attribute (.Name x p) "extend" q1) [a] [] q2) q3)=_
 unfold stepS;dsimp only
 rw[h1,h2,h3,h4,hl]
 show ((ev fns glob n).E k sc (purL l) a).bind (fun d=>match d with| .list es=>(if ds.length+es.length≤lim then some (Fl.next,setL l x (.own (ds++es))) else none)|_=>none)=_
 rw[hE]
 show (if ds.length+es.length≤lim then some (Fl.next,setL l x (.own (ds++es))) else none)=_
 rw[if_pos hlen]
theorem S_for{t i:Expr}{body orelse:List Stmt}{p:Pos}{its:List D}{res:Option (Fl×LocB)}(h1:(okT sc t&& !isSetE i&&(isTupT t|| !isEnumE i))=true)(hi:forIts (ev fns glob n) k sc (purL l) i=some its)
  (h:(match forL (ev fns glob n) k sc t body l its with
   |some (.next,l')=>(Ssl (ev fns glob n) k sc l' orelse).bind noExc
   |some (.brk,l')=>some (.next,l')
   |x=>x)=res):
  (ev fns glob (n+1)).S k sc l (.For t i body orelse p)=res:=by
 show stepS (ev fns glob n) k n sc l (.For t i body orelse p)=_
 unfold stepS;dsimp only
 rw[h1,hi,←h]
 show (forL (ev fns glob n) k sc t body l its).bind _=_
 cases forL (ev fns glob n) k sc t body l its with
 |none=>rfl
 |some x=>
  obtain⟨f,l'⟩:=x
  cases f <;> rfl
theorem S_forN{t i:Expr}{body:List Stmt}{p:Pos}{its:List D}(h1:(okT sc t&& !isSetE i&&(isTupT t|| !isEnumE i))=true)(hi:forIts (ev fns glob n) k sc (purL l) i=some its)(h:forL (ev fns glob n) k sc t body l its=some (.next,l')):
  (ev fns glob (n+1)).S k sc l (.For t i body [] p)=some (.next,l'):=S_for h1 hi (by rw[h];show (Ssl (ev fns glob n) k sc l' []).bind noExc=_;rw[Ssl_nil];rfl)
theorem S_forB{t i:Expr}{body orelse:List Stmt}{p:Pos}{its:List D}(h1:(okT sc t&& !isSetE i&&(isTupT t|| !isEnumE i))=true)(hi:forIts (ev fns glob n) k sc (purL l) i=some its)(h:forL (ev fns glob n) k sc t body l its=some (.brk,l')):
  (ev fns glob (n+1)).S k sc l (.For t i body orelse p)=some (.next,l'):=S_for h1 hi (by rw[h])
theorem S_forE{t i:Expr}{body orelse:List Stmt}{p:Pos}{its:List D}{l2:LocB}(h1:(okT sc t&& !isSetE i&&(isTupT t|| !isEnumE i))=true)(hi:forIts (ev fns glob n) k sc (purL l) i=some its)(h:forL (ev fns glob n) k sc t body l its=some (.next,l')){f:Fl}(hf:f= .next∨f= .brk∨f= .cont)(he:Ssl (ev fns glob n) k sc l' orelse=some (f,l2)):
  (ev fns glob (n+1)).S k sc l (.For t i body orelse p)=some (f,l2):=S_for h1 hi (by
   rw[h]
   show (Ssl (ev fns glob n) k sc l' orelse).bind noExc=_
   rw[he]
   rcases hf with rfl|rfl|rfl <;> rfl)
theorem forL_nil{t:Expr}{body:List Stmt}:forL r k sc t body l []=some (.next,l):=by unfold forL;rfl
theorem forL_next{t:Expr}{body:List Stmt}{d:D}{ds:List D}{l2:LocB}(h1:bindTB l t d=some l1)(h2:Ssl r k sc l1 body=some (.next,l2)):forL r k sc t body l (d::ds)=forL r k sc t body l2 ds:=by
 conv=>lhs;unfold forL
 rw[h1]
 show (Ssl r k sc l1 body).bind _=_
 rw[h2];rfl
theorem forL_brk{t:Expr}{body:List Stmt}{d:D}{ds:List D}{l2:LocB}(h1:bindTB l t d=some l1)(h2:Ssl r k sc l1 body=some (.brk,l2)):forL r k sc t body l (d::ds)=some (.brk,l2):=by
 conv=>lhs;unfold forL
 rw[h1]
 show (Ssl r k sc l1 body).bind _=_
 rw[h2];rfl
variable{lp:Loc}{a b:Expr}{x y d:D}{p:Pos}
theorem E_bin{op:Operator}(h1:(ev fns glob n).E k sc lp a=some x)(h2:(ev fns glob n).E k sc lp b=some y)(h3:binD op x y=some d):(ev fns glob (n+1)).E k sc lp (.BinOp a op b p)=some d:=by
 show stepE fns glob (ev fns glob n) k sc lp (.BinOp a op b p)=_
 unfold stepE;dsimp only
 rw[h1,h2]
 exact h3
theorem E_builtin1{g:Str}{pg:Pos}(hk:sc.names.lookup g=some .globalImplicit)(h0:(g==("__debug__":Str))=false)(h1:g≠"reduce")(h2:g≠"isinstance")(h3:(fns.lookup g).isSome=false)(hs:PySem.W.isStarred a=false)(ha:(ev fns glob n).E k sc lp a=some x)(hb:builtinD g [x]=some d):
  (ev fns glob (n+1)).E k sc lp (.Call (.Name g pg) [a] [] p)=some d:=by
 show stepE fns glob (ev fns glob n) k sc lp (.Call (.Name g pg) [a] [] p)=_
 unfold stepE;dsimp only
 rw[if_neg (by rw[hk,h0];simp),if_neg h1,if_neg h2,h3]
 show (Ess (ev fns glob n) k sc lp [a]).bind (fun as=>builtinD g as)=_
 unfold Ess
 rw[hs]
 show (((ev fns glob n).E k sc lp a).bind fun d=>(Ess (ev fns glob n) k sc lp []).bind fun ds=>some (d::ds)).bind (fun as=>builtinD g as)=_
 rw[ha]
 exact hb
theorem E_ifexp{t:Expr}{c:Bool}(h:Bt (ev fns glob n) k sc lp 4 t=some c)(hr:(ev fns glob n).E k sc lp (if c then a else b)=some d):(ev fns glob (n+1)).E k sc lp (.IfExp t a b p)=some d:=by
 show stepE fns glob (ev fns glob n) k sc lp (.IfExp t a b p)=_
 unfold stepE;dsimp only
 rw[h]
 cases c <;> exact hr
theorem E_cmp{op:CmpOp}{c:Bool}(hs:isSetE b=false)(h1:(ev fns glob n).E k sc lp a=some x)(h2:(ev fns glob n).E k sc lp b=some y)(h3:cmpD op x y=some c):(ev fns glob (n+1)).E k sc lp (.Compare a [op] [b] p)=some (.bool c):=by
 show stepE fns glob (ev fns glob n) k sc lp (.Compare a [op] [b] p)=_
 unfold stepE;dsimp only
 rw[hs]
 show (((ev fns glob n).E k sc lp a).bind fun x=>((ev fns glob n).E k sc lp b).bind fun y=>(cmpD op x y).map D.bool)=_
 rw[h1,h2]
 show (cmpD op x y).map D.bool=_
 rw[h3];rfl
theorem Bt_cmp{m:Nat}{op:CmpOp}{c:Bool}(hs:isSetE b=false)(h1:(ev fns glob n).E k sc lp a=some x)(h2:(ev fns glob n).E k sc lp b=some y)(h3:cmpD op x y=some c):Bt (ev fns glob n) k sc lp (m+1) (.Compare a [op] [b] p)=some c:=by
 show (if isSetE b=true then none else ((ev fns glob n).E k sc lp a).bind fun a=>((ev fns glob n).E k sc lp b).bind fun b=>cmpD op a b)=_
 rw[hs,h1,h2];exact h3
theorem Bt_not{m:Nat}{c:Bool}(h:Bt (ev fns glob n) k sc lp m a=some c):Bt (ev fns glob n) k sc lp (m+1) (.UnaryOp .Not a p)=some (!c):=by
 show (Bt (ev fns glob n) k sc lp m a).map (!·)=_
 rw[h];rfl
theorem Bt_and{m:Nat}{c e:Bool}(h1:Bt (ev fns glob n) k sc lp m a=some c)(h2:Bt (ev fns glob n) k sc lp m b=some e):Bt (ev fns glob n) k sc lp (m+1) (.BoolOp .And [a,b] p)=some (c&&e):=by
 show (Bt (ev fns glob n) k sc lp m a).bind (fun b'=>if b' then Bt (ev fns glob n) k sc lp m b else some false)=_
 rw[h1,h2];cases c <;> rfl
theorem Bt_or{m:Nat}{c e:Bool}(h1:Bt (ev fns glob n) k sc lp m a=some c)(h2:Bt (ev fns glob n) k sc lp m b=some e):Bt (ev fns glob n) k sc lp (m+1) (.BoolOp .Or [a,b] p)=some (c||e):=by
 show (Bt (ev fns glob n) k sc lp m a).bind (fun b'=>if b' then some true else Bt (ev fns glob n) k sc lp m b)=_
 rw[h1,h2];cases c <;> rfl
theorem ints_map(xs:List Int):ints? (xs.map .int)=some xs:=by
 induction xs with
 |nil=>rfl
 |cons x xs ih=>
  show (ints? (xs.map .int)).map (x::·)=_
  rw[ih];rfl
end
def obK(K:Frag)(a:Addr):Obj:=(K.lookup a).getD default
def fdK(o:Obj):FuncData:=match o.data with| .func fd=>fd|_=>default
def nm1(o:Obj):Option Str:=match o.data with
 | .fields vs=>match (vs[1]? :Option Value) with
   |some (.str q _)=>some q
   |_=>none
 |_=>none
structure FnAt(K:Frag)(x:Str)(f:Fn)(a c:Addr):Prop where
 mg:nsIn K mainGlobals x=some (some (.ref a))
 at1:K.lookup a=some (obK K a)
 dat:(obK K a).data= .func (docDef x f.params f.body f.scope (fdK (obK K a)).pyModule (.ref c) (fdK (obK K a)).doc)
 at2:K.lookup c=some (obK K c)
 nm:nm1 (obK K c)=some x
section
variable{K:Frag}{h:Heap}{mg mb:Str→Option Value}
theorem codeRec_of{c:Addr}{x:Str}(X:K.In h)(h1:K.lookup c=some (obK K c))(h2:nm1 (obK K c)=some x):h.CodeRec (.ref c) x:=by
 unfold nm1 at h2
 split at h2
 ·rename_i vs e
  split at h2
  ·rename_i q t e2
   cases h2
   exact⟨c,_,vs,t,rfl,X _ _ h1,e,e2⟩
  ·cases h2
 ·cases h2
theorem FnAt.is{x:Str}{f:Fn}{a c:Addr}(F:FnAt K x f a c)(X:K.In h)(G:h.Ns mainGlobals mg):mg x=some (.ref a)∧h.get? a=some (obK K a)∧h.CodeRec (.ref c) x:=
 ⟨mg_of X G F.mg,X _ _ F.at1,codeRec_of X F.at2 F.nm⟩
def rdAll(f:Value→Option D):List Value→Option (List D)
 |[]=>some []
 |v::vs=>(f v).bind fun d=>(rdAll f vs).map (d::·)
def rdK(K:Frag):Nat→Value→Option D
 |0,_=>none
 |n+1,v=>match v with
  | .int i _=>some (.int i)
  | .str x _=>some (.str x)
  | .ref a=>match K.lookup a with
    |some ⟨.type c,none,.seq vs 0,⟨[]⟩⟩=>if c="tuple" then (rdAll (rdK K n) vs.toList).map .tup else none
    |_=>none
  |_=>none
theorem rdAll_sound{prog:Program}{w:World}{f:Value→Option D}(ih:∀v d,f v=some d→R prog w h.get? v d):∀(vs:List Value) (ds:List D),rdAll f vs=some ds→Rs prog w h.get? vs ds
 |[],ds,e=>by
  unfold rdAll at e;cases e;exact .nil
 |v::vs,ds,e=>by
  unfold rdAll at e
  obtain⟨d,h1,h2⟩:=zbs.mp e
  obtain⟨ds',h3,rfl⟩:=Option.map_eq_some_iff.mp h2
  exact .cons (ih _ _ h1) (rdAll_sound ih vs ds' h3)
theorem rdK_sound{prog:Program}{w:World}(X:K.In h):∀(n:Nat) (v:Value) (d:D),rdK K n v=some d→R prog w h.get? v d
 |0,v,d,e=>by unfold rdK at e;cases e
 |n+1,v,d,e=>by
  unfold rdK at e
  split at e
  ·cases e;exact .int _ _
  ·cases e;exact .str _ _
  ·rename_i a
   split at e
   ·rename_i c vs q
    split at e
    ·rename_i hc
     obtain⟨ds,h1,rfl⟩:=Option.map_eq_some_iff.mp e
     subst hc
     refine .tup (vs:=vs.toList) (n:=0) ?_ (rdAll_sound (rdK_sound X n) _ _ h1)
     exact X _ _ q
    ·cases e
   ·cases e
  ·cases e
def strKeysB(es:Array DictEntry):Bool:=es.toList.all fun e=>match e.key with
 | .str _ _=>true
 |_=>false
def esK(o:Obj):Array DictEntry:=match o.data with| .dict es _=>es|_=> #[]
def isDictB(o:Obj):Bool:=match o.data with| .dict es _=>strKeysB es|_=>false
theorem ns_of{a:Addr}(X:K.In h)(h1:K.lookup a=some (obK K a))(h2:isDictB (obK K a)=true):h.Ns a (nsFind (esK (obK K a))):=by
 unfold isDictB at h2
 split at h2
 ·rename_i es ep e
  refine⟨_,es,ep,X _ _ h1,e,fun en hen=> ?_,fun name=> ?_⟩
  ·have:=List.all_eq_true.mp h2 en (by simpa using hen)
   split at this
   ·rename_i q t e';exact⟨q,t,e'⟩
   ·cases this
  ·unfold esK
   rw[e]
 ·cases h2
structure ExcAt(K:Frag)(x:Str)(cl clE N NE:Addr):Prop where
 mg:nsIn K mainGlobals x=some (some (.ref cl))
 at1:∃(nm q:Str) (bs:List Value) (hdct:Bool) (sn:List Str) (sub:List Value) (ab:Bool) (col:Option Bool) (dd:Option Addr) (k0 k1 k2 k3 k5:Option Value),K.lookup cl=some (excClassObj nm q cl N bs (.ref clE::excBM) hdct sn sub ab col dd k0 k1 k2 k3 k5 "Exception.__new__")
 atN:K.lookup N=some (obK K N)
 dN:isDictB (obK K N)=true
 nN:∀x∈excMyNames,nsFind (esK (obK K N)) x=none
 atE:∃(c0:Value) (dd0:Option Addr) (cd:ClassData) (sl:Array (Option Value)),K.lookup clE=some { cls:=c0,dict:=dd0,data:= .cls cd,slots:=sl }∧cd.ns=NE
 atM:K.lookup NE=some (obK K NE)
 dM:isDictB (obK K NE)=true
 nM:∀x∈excMyNames,nsFind (esK (obK K NE)) x=none
theorem ExcAt.exc{x:Str}{cl clE N NE:Addr}(E:ExcAt K x cl clE N NE)(X:K.In h):ExcC h cl clE:=by
 obtain⟨nm,q,bs,hdct,sn,sub,ab,col,dd,k0,k1,k2,k3,k5,e1⟩:=E.at1
 obtain⟨c0,dd0,cd,sl,e2,e3⟩:=E.atE
 refine⟨nm,q,N,bs,hdct,sn,sub,ab,col,dd,k0,k1,k2,k3,k5,"Exception.__new__","Exception","Exception.__init__",[.type "Exception",.type "BaseException",.type "object"],c0,dd0,cd,sl,_,_,F.excBase_Exception,by decide+kernel,X _ _ e1,ns_of X E.atN E.dN,E.nN,X _ _ e2,?_,E.nM⟩
 rw[e3]
 exact ns_of X E.atM E.dM
structure RedAt(K:Frag)(f:Fn)(a c dt ai:Addr):Prop where
 ok:RedFn f
 mg:nsIn K mainGlobals "reduce"=some (some (.ref a))
 at1:K.lookup a=some (obK K a)
 dat:(obK K a).data= .func { docDef "reduce" f.params f.body f.scope (fdK (obK K a)).pyModule (.ref c) (fdK (obK K a)).doc with defaults:= .ref dt }
 at2:K.lookup c=some (obK K c)
 nm:nm1 (obK K c)=some "reduce"
 at3:K.lookup dt=some (obK K dt)
 d3:(obK K dt).data= .seq #[.ref ai] 0
 mgi:nsIn K mainGlobals "_initial_missing"=some (some (.ref ai))
 at4:K.lookup ai=some (obK K ai)
 d4:(obK K ai).cls= .type "object"
structure AllK(K:Frag)(fns:List (Str×Fn))(tab:D)(c P:Addr):Prop where
 noT:noTabs K=true
 fn:∀q∈fns,∃a c,FnAt K q.1 q.2 a c
 okf:∀q∈fns,okFn q.2=true
 tab:∃v,nsIn K mainGlobals "_filemode_table"=some (some v)∧rdK K 5 v=some tab
 bi:∀x∈usedBuiltins,nsIn K mainGlobals x=some none
 red:∃f a c dt ai,RedAt K f a c dt ai
 hd:codeHdIn K c P=true
 exc:∃clR clP clE NR NP NE,ExcAt K "error_reply" clR clE NR NE∧ExcAt K "error_proto" clP clE NP NE∧clR≠clP∧clR≠clE∧clP≠clE
abbrev cxOf(prog:Program)(w:World)(h:Heap)(P:Addr)(mg mb:Str→Option Value)(fns:List (Str×Fn))(tab:D)(c:Addr)(lq:Str):Cx:=
 ⟨prog,w,h,P,mg,mb,fns,[("_filemode_table",tab)],c,lq⟩
theorem mem_of_lkp{α:Type}:∀{l:List (Str×α)} {x:Str} {f:α},l.lookup x=some f→(x,f)∈l
 |[],_,_,e=>by cases e
 |(b,y)::r,x,f,e=>by
  rw[List.lookup_cons] at e
  cases hb:x==b with
  |true=>rw[hb] at e;cases e;rw[eq_of_beq hb];exact .head _
  |false=>rw[hb] at e;exact .tail _ (mem_of_lkp e)
set_option maxHeartbeats 4000000 in
theorem base_of{prog p:Program}{w:World}{h1:Heap}{c P:Addr}{loose:List Str}{mean:ExcName→Option Value}{fns:List (Str×Fn)}{tab:D}{lq:Str}(hT:TabsAt [(c,P)] h1)(X1:K.In h1)(T:Top p loose mean mg mb h1)(imp:importsNone p=true)(A:AllK K fns tab c P):
  Base (cxOf prog w (ghostOf h1 [(c,P)]) P mg mb fns tab c lq):=by
 have X:K.In (ghostOf h1 [(c,P)]):=ghost_K hT X1 A.noT
 have T':=ghost_top hT T
 have G:=T'.g
 refine
  { g:=G
    b:=T'.b
    nolimit:=T'.nolimit
    hP:=hideAll_none _ (by simp)
    fn:=fun x f e=> ?_
    okf:=fun x f e=>A.okf _ (mem_of_lkp e)
    gl:=fun x d e=> ?_
    bi:=fun x hx=>⟨mg_none_of X G (A.bi x hx),T'.builtins x ?_⟩
    sys:= ?_
    red:= ?_
    hd:=codeHd_of_K X A.hd
    bat:= ?_
    exc:= ?_ }
 ·obtain⟨a,c',F⟩:=A.fn _ (mem_of_lkp e)
  obtain⟨e1,e2,e3⟩:=F.is X G
  exact⟨a,_,_,_,_,e1,e2,F.dat,e3⟩
 ·have e':=mem_of_lkp e
  simp at e'
  obtain⟨rfl,rfl⟩:=e'
  obtain⟨v,e1,e2⟩:=A.tab
  exact⟨v,mg_of X G e1,rdK_sound X 5 v _ e2⟩
 ·rintro rfl
  exact absurd hx kD
 ·have:=(T.seer imp)
  obtain⟨_,⟨m,hm,_⟩,_⟩:=this
  obtain⟨o,es,ep,ho,_⟩:=ghost_ns hT hm
  show ((ghostOf h1 [(c,P)]).get? sysModules).isSome=true
  rw[ho];rfl
 ·obtain⟨f,a,c',dt,ai,r⟩:=A.red
  exact⟨f,a,_,_,_,_,dt,ai,_,_,_,r.ok,mg_of X G r.mg,X _ _ r.at1,r.dat,codeRec_of X r.at2 r.nm,X _ _ r.at3,r.d3,mg_of X G r.mgi,X _ _ r.at4,r.d4⟩
 ·obtain⟨bm,ob,b1,b2,b3,b4,b5,b6⟩:=T'.bmain
  refine⟨bm,ob,b1,b2,fun e=> ?_,b3,b4,b5,b6⟩
  obtain⟨o,es,ep,ho,hd,_⟩:=G
  rw[←e,b3] at ho
  cases ho
  rw[b6] at hd;cases hd
 ·obtain⟨clR,clP,clE,NR,NP,NE,r1,r2,r3⟩:=A.exc
  exact⟨clR,clP,clE,mg_of X G r1.mg,mg_of X G r2.mg,r1.exc X,r2.exc X,r3⟩
structure ExcKAt(K:Frag)(clR clP:Addr):Prop where
 mR:nsIn K mainGlobals "error_reply"=some (some (.ref clR))
 mP:nsIn K mainGlobals "error_proto"=some (some (.ref clP))
 ne:clR≠clP
 ex:∀c∈[clR,clP],∀c'∈[clR,clP],exmOne K (.ref c) (.ref c')=some (decide (c=c'))
 base:∀c∈[clR,clP],subIn K (.ref c) (.type "BaseException")=some true
 str:∀c∈[clR,clP],findIn K (.ref c) "__str__"=some (some (.builtin "BaseException.__str__"))
theorem ExcKAt.is{C:Cx}{clR clP:Addr}(E:ExcKAt K clR clP)(X:K.In C.g0)(G:C.g0.Ns mainGlobals C.mg):ExcK C clR clP where
 mR:=mg_of X G E.mR
 mP:=mg_of X G E.mP
 ne:=E.ne
 ty:=fun M c hc=>⟨exm_ty X (E.ex c hc c hc),(exm_cls X (E.ex c hc c hc)).1⟩
 sub:=fun M c hc c' hc'=>(exm_cls X (E.ex c hc c' hc')).2
 base:=fun M c hc=>looks_subIn X (E.base c hc)
 str:=fun M c hc=>looks_findIn X (E.str c hc)
end
def tabRow(l:List (Int×Str)):D:= .tup (l.map fun q=> .tup [.int q.1,.str q.2])
def tabD:D:= .tup [tabRow [(40960,"l"),(49152,"s"),(32768,"-"),(24576,"b"),(16384,"d"),(8192,"c"),(4096,"p")],tabRow [(256,"r")],tabRow [(128,"w")],tabRow [(2112,"s"),(2048,"S"),(64,"x")],tabRow [(32,"r")],tabRow [(16,"w")],tabRow [(1032,"s"),(1024,"S"),(8,"x")],tabRow [(4,"r")],tabRow [(2,"w")],tabRow [(513,"t"),(512,"T"),(1,"x")]]
def fns1:List (Str×Fn):=[("_c3_merge",fnAt Challenge.pw_oy0159_01 "_c3_merge"),("parse229",fnAt Challenge.pw_oy0159_01 "parse229"),("parse257",fnAt Challenge.pw_oy0159_01 "parse257"),("S_IMODE",fnAt Challenge.pw_oy0159_01 "S_IMODE"),("S_IFMT",fnAt Challenge.pw_oy0159_01 "S_IFMT"),("filemode",fnAt Challenge.pw_oy0159_01 "filemode"),("_law_said",fnAt Challenge.pw_oy0159_01 "_law_said"),("_law_talk",fnAt Challenge.pw_oy0159_01 "_law_talk"),("_law_heard",fnAt Challenge.pw_oy0159_01 "_law_heard"),("_law_listing",fnAt Challenge.pw_oy0159_01 "_law_listing"),("_law_joined",fnAt Challenge.pw_oy0159_01 "_law_joined"),("_law_lines",fnAt Challenge.pw_oy0159_01 "_law_lines"),("_law_laid",fnAt Challenge.pw_oy0159_01 "_law_laid"),("_law_greatest",fnAt Challenge.pw_oy0159_01 "_law_greatest")]
def red1:Fn:=fnAt Challenge.pw_oy0159_01 "reduce"
def posR1:List Pos:=[⟨4,4,4,6⟩,⟨4,9,4,13⟩,⟨4,14,4,22⟩,⟨4,9,4,23⟩,⟨4,4,4,23⟩,⟨5,7,5,14⟩,⟨5,18,5,34⟩,⟨5,7,5,34⟩,⟨7,12,7,17⟩,⟨7,20,7,24⟩,⟨7,25,7,27⟩,⟨7,20,7,28⟩,⟨7,12,7,28⟩,⟨6,8,9,89⟩,⟨11,8,11,13⟩,⟨11,16,11,23⟩,⟨11,8,11,23⟩,⟨5,4,11,23⟩,⟨12,8,12,15⟩,⟨12,19,12,21⟩,⟨13,8,13,13⟩,⟨13,16,13,24⟩,⟨13,25,13,30⟩,⟨13,32,13,39⟩,⟨13,16,13,40⟩,⟨13,8,13,40⟩,⟨12,4,13,40⟩,⟨14,11,14,16⟩,⟨14,4,14,16⟩]
def handOf1:List ExceptHandler:=match red1.body with
 |[_,.If _ [.Try _ hs _ _ _] _ _,_,_]=>hs
 |_=>[]
theorem redf1:RedFn red1 where
 ok:=kR
 names:=kR
 loc:=by decide+kernel
 glb:=by decide+kernel
 shape:=⟨fun k=>posR1.getD k ⟨0,0,0,0⟩,handOf1.headD (.ExceptHandler none none [] ⟨0,0,0,0⟩),handOf1.tail,kR⟩
theorem okf1:∀q∈fns1,okFn q.2=true:=by decide+kernel
section
variable{fns:List (Str×Fn)}{glob:List (Str×D)}{k:Bool}{sc csc:Scope}{l:Loc}{it it2 elt ke ve:Expr}{ifs ifs2:List Expr}{x y z:Str}{tp tp2 pos:Pos}{n:Nat}
theorem flatIf{α β:Type}(t:α→Bool)(e:α→β)(xs:List α):(xs.flatMap fun x=>if t x then [e x] else [])=(xs.filter t).map e:=by
 induction xs with
 |nil=>rfl
 |cons x xs ih=>
  rw[List.flatMap_cons,ih]
  cases ht:t x <;> simp[List.filter_cons,ht]
theorem bindT_name{d:D}{lp:Loc}(h:(lp x).isSome=false):bindT lp (.Name x tp) d=some (setL lp x d):=by
 show (if (lp x).isSome=true then none else some (setL lp x d))=_
 rw[h];rfl
theorem bindT_two{a b:D}{kd:Nat}{p1 p2:Pos}{lp:Loc}(h:(lp x).isSome=false)(h':(lp y).isSome=false):bindT lp (.Tuple [.Name x p1,.Name y p2] kd tp) (.tup [a,b])=some (setL (setL lp x a) y b):=by
 show (if (lp x).isSome=true∨(lp y).isSome=true then none else some (setL (setL lp x a) y b))=_
 rw[h,h'];rfl
theorem loop1{r:Ev}{α:Type}(f:α→D)(t:α→Bool)(e:α→D)(emit:Loc→Option D)(xs:List α)(a:Int)(hx:(l x).isSome=false)
  (ht:∀q∈xs,testAll r k sc (setL l x (f q)) ifs=some (t q)) (he:∀q∈xs,t q=true→emit (setL l x (f q))=some (e q)):
  compLoop r k sc l ⟨.Name x tp,it,ifs,a⟩ (fun l'=>(emit l').map fun x=>[x]) (xs.map f)=some ((xs.filter t).map e):=by
 rw[compLoop_map f t (fun q=>[e q]) xs fun q hq=>⟨_,bindT_name hx,ht q hq,fun hh=>by rw[he q hq hh];rfl⟩,flatIf]
theorem comp1{α:Type}(f:α→D)(t:α→Bool)(e:α→D)(xs:List α){a:Int}(hit:((ev fns glob n).E k sc l it).bind iterD=some (xs.map f))(ok:okComp sc csc [⟨.Name x tp,it,ifs,a⟩]=true)(hx:(compLoc csc l x).isSome=false)
  (ht:∀q∈xs,testAll (ev fns glob n) k (ownSc sc csc) (setL (compLoc csc l) x (f q)) ifs=some (t q)) (he:∀q∈xs,t q=true→(ev fns glob n).E k (ownSc sc csc) (setL (compLoc csc l) x (f q)) elt=some (e q)) (hl:xs.length≤lim):
  (ev fns glob (n+1)).E k sc l (.ListComp elt [⟨.Name x tp,it,ifs,a⟩] csc pos)=some (.list ((xs.filter t).map e)):=by
 have h1:=loop1 (it:=it) (tp:=tp) (k:=k) f t e (fun l'=>(ev fns glob n).E k (ownSc sc csc) l' elt) xs a hx ht he
 show (((ev fns glob n).E k sc l it).bind iterD).bind (fun its=>if okComp sc csc [⟨.Name x tp,it,ifs,a⟩]=true then (compLoop (ev fns glob n) k (ownSc sc csc) (compLoc csc l) ⟨.Name x tp,it,ifs,a⟩ (fun l'=>((ev fns glob n).E k (ownSc sc csc) l' elt).map fun x=>[x]) its).bind (fun ds=>if ds.length≤lim then some (D.list ds) else none) else none)=_
 rw[hit]
 show (if okComp sc csc [⟨.Name x tp,it,ifs,a⟩]=true then (compLoop (ev fns glob n) k (ownSc sc csc) (compLoc csc l) ⟨.Name x tp,it,ifs,a⟩ (fun l'=>((ev fns glob n).E k (ownSc sc csc) l' elt).map fun x=>[x]) (xs.map f)).bind (fun ds=>if ds.length≤lim then some (D.list ds) else none) else none)=_
 rw[if_pos ok,h1]
 show (if ((xs.filter t).map e).length≤lim then some (D.list ((xs.filter t).map e)) else none)=_
 rw[if_pos (by rw[List.length_map];exact znT (List.length_filter_le _ _) hl)]
theorem comp0{α:Type}(f:α→D)(e:α→D)(xs:List α){a:Int}(hit:((ev fns glob n).E k sc l it).bind iterD=some (xs.map f))(ok:okComp sc csc [⟨.Name x tp,it,[],a⟩]=true)(hx:(compLoc csc l x).isSome=false)
  (he:∀q∈xs,(ev fns glob n).E k (ownSc sc csc) (setL (compLoc csc l) x (f q)) elt=some (e q)) (hl:xs.length≤lim):
  (ev fns glob (n+1)).E k sc l (.ListComp elt [⟨.Name x tp,it,[],a⟩] csc pos)=some (.list (xs.map e)):=by
 rw[comp1 f (fun _=>true) e xs hit ok hx (fun q hq=>rfl) (fun q hq _=>he q hq) hl]
 rw[List.filter_eq_self.mpr fun _ _=>rfl]
theorem comp2{α β:Type}(f:α→D)(t1:α→Bool)(ys:α→List β)(g:β→D)(t:α→β→Bool)(e:α→β→D)(xs:List α){a b:Int}(hit:((ev fns glob n).E k sc l it).bind iterD=some (xs.map f))(ok:okComp sc csc [⟨.Name x tp,it,ifs,a⟩,⟨.Name y tp2,it2,ifs2,b⟩]=true)
  (hx:(compLoc csc l x).isSome=false) (hy:∀q∈xs,(setL (compLoc csc l) x (f q) y).isSome=false) (ht1:∀q∈xs,testAll (ev fns glob n) k (ownSc sc csc) (setL (compLoc csc l) x (f q)) ifs=some (t1 q))
  (hit2:∀q∈xs,t1 q=true→((ev fns glob n).E k (ownSc sc csc) (setL (compLoc csc l) x (f q)) it2).bind iterD=some ((ys q).map g))
  (ht:∀q∈xs,t1 q=true→∀p∈ys q,testAll (ev fns glob n) k (ownSc sc csc) (setL (setL (compLoc csc l) x (f q)) y (g p)) ifs2=some (t q p)) (he:∀q∈xs,t1 q=true→∀p∈ys q,t q p=true→(ev fns glob n).E k (ownSc sc csc) (setL (setL (compLoc csc l) x (f q)) y (g p)) elt=some (e q p))
  (hl:(xs.flatMap fun q=>if t1 q then ((ys q).filter (t q)).map (e q) else []).length≤lim):
  (ev fns glob (n+1)).E k sc l (.ListComp elt [⟨.Name x tp,it,ifs,a⟩,⟨.Name y tp2,it2,ifs2,b⟩] csc pos)=some (.list (xs.flatMap fun q=>if t1 q then ((ys q).filter (t q)).map (e q) else [])):=by
 have h1:compLoop (ev fns glob n) k (ownSc sc csc) (compLoc csc l) ⟨.Name x tp,it,ifs,a⟩ (fun l'=>(((ev fns glob n).E k (ownSc sc csc) l' it2).bind iterD).bind fun its'=>compLoop (ev fns glob n) k (ownSc sc csc) l' ⟨.Name y tp2,it2,ifs2,b⟩ (fun l'=>((ev fns glob n).E k (ownSc sc csc) l' elt).map fun x=>[x]) its') (xs.map f)=some (xs.flatMap fun q=>if t1 q then ((ys q).filter (t q)).map (e q) else []):=by
  refine compLoop_map f t1 (fun q=>((ys q).filter (t q)).map (e q)) xs fun q hq=>⟨_,bindT_name hx,ht1 q hq,fun hh=> ?_⟩
  rw[hit2 q hq hh]
  exact loop1 g (t q) (e q) _ (ys q) b (hy q hq) (ht q hq hh) (he q hq hh)
 show (((ev fns glob n).E k sc l it).bind iterD).bind (fun its=>if okComp sc csc [⟨.Name x tp,it,ifs,a⟩,⟨.Name y tp2,it2,ifs2,b⟩]=true then (compLoop (ev fns glob n) k (ownSc sc csc) (compLoc csc l) ⟨.Name x tp,it,ifs,a⟩ (fun l'=>(((ev fns glob n).E k (ownSc sc csc) l' it2).bind iterD).bind fun its'=>compLoop (ev fns glob n) k (ownSc sc csc) l' ⟨.Name y tp2,it2,ifs2,b⟩ (fun l'=>((ev fns glob n).E k (ownSc sc csc) l' elt).map fun x=>[x]) its') its).bind (fun ds=>if ds.length≤lim then some (D.list ds) else none) else none)=_
 rw[hit]
 show (if okComp sc csc [⟨.Name x tp,it,ifs,a⟩,⟨.Name y tp2,it2,ifs2,b⟩]=true then (compLoop (ev fns glob n) k (ownSc sc csc) (compLoc csc l) ⟨.Name x tp,it,ifs,a⟩ (fun l'=>(((ev fns glob n).E k (ownSc sc csc) l' it2).bind iterD).bind fun its'=>compLoop (ev fns glob n) k (ownSc sc csc) l' ⟨.Name y tp2,it2,ifs2,b⟩ (fun l'=>((ev fns glob n).E k (ownSc sc csc) l' elt).map fun x=>[x]) its') (xs.map f)).bind (fun ds=>if ds.length≤lim then some (D.list ds) else none) else none)=_
 rw[if_pos ok,h1]
 exact if_pos hl
theorem comp1p{α:Type}(f:α→D×D)(t:α→Bool)(e:α→D)(xs:List α){a:Int}{kd:Nat}{p1 p2:Pos}(hit:((ev fns glob n).E k sc l it).bind iterD=some (xs.map fun q=> .tup [(f q).1,(f q).2]))(ok:okComp sc csc [⟨.Tuple [.Name x p1,.Name y p2] kd tp,it,ifs,a⟩]=true)(hx:(compLoc csc l x).isSome=false)(hy:(compLoc csc l y).isSome=false)
  (ht:∀q∈xs,testAll (ev fns glob n) k (ownSc sc csc) (setL (setL (compLoc csc l) x (f q).1) y (f q).2) ifs=some (t q)) (he:∀q∈xs,t q=true→(ev fns glob n).E k (ownSc sc csc) (setL (setL (compLoc csc l) x (f q).1) y (f q).2) elt=some (e q)) (hl:xs.length≤lim):
  (ev fns glob (n+1)).E k sc l (.ListComp elt [⟨.Tuple [.Name x p1,.Name y p2] kd tp,it,ifs,a⟩] csc pos)=some (.list ((xs.filter t).map e)):=by
 have h1:compLoop (ev fns glob n) k (ownSc sc csc) (compLoc csc l) ⟨.Tuple [.Name x p1,.Name y p2] kd tp,it,ifs,a⟩ (fun l'=>((ev fns glob n).E k (ownSc sc csc) l' elt).map fun x=>[x]) (xs.map fun q=> .tup [(f q).1,(f q).2])=some ((xs.filter t).map e):=by
  rw[compLoop_map (fun q=> .tup [(f q).1,(f q).2]) t (fun q=>[e q]) xs fun q hq=>⟨_,bindT_two hx hy,ht q hq,fun hh=>by rw[he q hq hh];rfl⟩,flatIf]
 show (((ev fns glob n).E k sc l it).bind iterD).bind (fun its=>if okComp sc csc [⟨.Tuple [.Name x p1,.Name y p2] kd tp,it,ifs,a⟩]=true then (compLoop (ev fns glob n) k (ownSc sc csc) (compLoc csc l) ⟨.Tuple [.Name x p1,.Name y p2] kd tp,it,ifs,a⟩ (fun l'=>((ev fns glob n).E k (ownSc sc csc) l' elt).map fun x=>[x]) its).bind (fun ds=>if ds.length≤lim then some (D.list ds) else none) else none)=_
 rw[hit]
 show (if okComp sc csc [⟨.Tuple [.Name x p1,.Name y p2] kd tp,it,ifs,a⟩]=true then (compLoop (ev fns glob n) k (ownSc sc csc) (compLoc csc l) ⟨.Tuple [.Name x p1,.Name y p2] kd tp,it,ifs,a⟩ (fun l'=>((ev fns glob n).E k (ownSc sc csc) l' elt).map fun x=>[x]) (xs.map fun q=> .tup [(f q).1,(f q).2])).bind (fun ds=>if ds.length≤lim then some (D.list ds) else none) else none)=_
 rw[if_pos ok,h1]
 show (if ((xs.filter t).map e).length≤lim then some (D.list ((xs.filter t).map e)) else none)=_
 rw[if_pos (by rw[List.length_map];exact znT (List.length_filter_le _ _) hl)]
theorem rngIts{i:Nat}(h:i≤1000):iterD (.rng 0 (i:Int))=some ((List.range i).map fun k:Nat=> .int (k:Int)):=by
 show (if (small 0&&small (i:Int)&&decide ((i:Int) - 0≤1000))=true then some ((List.range ((i:Int) - 0).toNat).map fun(k:Nat)=>D.int (0+(k:Int))) else none)=_
 have h1:small (i:Int)=true:=by
  unfold small
  refine decide_eq_true ?_
  have:(1000:Nat)<2 ^ 60:=by decide
  omega
 rw[h1,if_pos (by
  have:decide ((i:Int) - 0≤1000)=true:=decide_eq_true kO
  rw[this];decide)]
 rw[show ((i:Int) - 0).toNat=i by omega]
 simp
theorem item_nat{ds:List D}{i:Nat}{d:D}(h:ds[i]? =some d)(hl:ds.length≤lim):itemD (.list ds) (.int (i:Int))=some d:=by
 have hi:i<ds.length:=(List.getElem?_eq_some_iff.mp h).1
 show (if ds.length≤lim then (idx? (i:Int) ds.length).bind (ds[·]?) else none)=_
 rw[if_pos hl]
 unfold idx?
 rw[if_pos kO,if_pos kO]
 simpa using h
end
structure Faith{α:Type}[DecidableEq α](f:α→D)(m:Nat):Prop where
 like:∀a b,D.like (f a) (f b)=true
 beq:∀a b,D.beq (f a) (f b)=decide (a=b)
 dep:∀a,D.dep (f a)≤m
section
variable{α:Type}[DecidableEq α]{f:α→D}{m:Nat}
theorem Faith.str:Faith D.str 0 where
 like:=fun a b=>by simp[D.like]
 beq:=fun a b=>by
  show (a==b)=decide (a=b)
  rw[Bool.eq_iff_iff];simp
 dep:=fun a=>by simp[D.dep]
theorem Faith.int:Faith D.int 0 where
 like:=fun a b=>by simp[D.like]
 beq:=fun a b=>by
  show (a==b)=decide (a=b)
  rw[Bool.eq_iff_iff];simp
 dep:=fun a=>by simp[D.dep]
theorem Faith.likes(h:Faith f m):∀xs ys:List α,D.likes (xs.map f) (ys.map f)=true
 |[],_=>by simp[D.likes]
 |_::_,[]=>by simp[D.likes]
 |x::xs,y::ys=>by
  simp only[List.map_cons,D.likes,h.like,Bool.true_and]
  exact h.likes xs ys
theorem Faith.beqs(h:Faith f m):∀xs ys:List α,D.beqs (xs.map f) (ys.map f)=decide (xs=ys)
 |[],[]=>by simp[D.beqs]
 |[],_::_=>by simp[D.beqs]
 |_::_,[]=>by simp[D.beqs]
 |x::xs,y::ys=>by
  simp only[List.map_cons,D.beqs,h.beq]
  rw[h.beqs xs ys,Bool.eq_iff_iff];simp
theorem Faith.deps(h:Faith f m):∀xs:List α,D.deps (xs.map f)≤m
 |[]=>by simp[D.deps]
 |x::xs=>by
  simp only[List.map_cons,D.deps]
  exact Nat.max_le.mpr ⟨h.dep x,h.deps xs⟩
theorem Faith.list(h:Faith f m):Faith (fun xs:List α=>D.list (xs.map f)) (m+1) where
 like:=fun a b=>by simp only[D.like];exact h.likes a b
 beq:=fun a b=>by simp only[D.beq];exact h.beqs a b
 dep:=fun a=>by simp only[D.dep];exact Nat.succ_le_succ (h.deps a)
theorem Faith.eq(h:Faith f m)(hm:m≤20)(a b:α):cmpD .Eq (f a) (f b)=some (decide (a=b)):=by
 show (if (D.like (f a) (f b)&&decide (D.dep (f a)≤20))=true then some (D.beq (f a) (f b)) else none)=_
 rw[h.like,h.beq,if_pos]
 rw[decide_eq_true (znT (h.dep a) hm)];rfl
theorem Faith.ne(h:Faith f m)(hm:m≤20)(a b:α):cmpD .NotEq (f a) (f b)=some (!decide (a=b)):=by
 show (if (D.like (f a) (f b)&&decide (D.dep (f a)≤20))=true then some (!D.beq (f a) (f b)) else toldNe (f a) (f b))=_
 rw[h.like,h.beq,if_pos]
 rw[decide_eq_true (znT (h.dep a) hm)];rfl
theorem Faith.mem(h:Faith f m)(hm:m≤20)(a:α)(xs:List α)[Decidable (a∈xs)]:inD (f a) (.list (xs.map f))=some (decide (a∈xs)):=by
 show (if (xs.map f).all (fun y=>D.like y (f a)&&decide (D.dep y≤20))=true then some ((xs.map f).any fun y=>D.beq y (f a)) else none)=_
 rw[if_pos]
 ·congr 1
  rw[Bool.eq_iff_iff,List.any_eq_true,decide_eq_true_eq]
  constructor
  ·rintro ⟨y,hy,e⟩
   obtain⟨x,hx,rfl⟩:=zmap.mp hy
   rw[h.beq,decide_eq_true_eq] at e
   exact e▸hx
  ·exact fun hx=>⟨f a,List.mem_map_of_mem hx,by rw[h.beq];simp⟩
 ·rw[List.all_eq_true]
  intro y hy
  obtain⟨x,hx,rfl⟩:=zmap.mp hy
  rw[h.like,decide_eq_true (znT (h.dep x) hm)];rfl
theorem Faith.isIn(h:Faith f m)(hm:m≤20)(a:α)(xs:List α)[Decidable (a∈xs)]:cmpD .In (f a) (.list (xs.map f))=some (decide (a∈xs)):=h.mem hm a xs
theorem Faith.notIn(h:Faith f m)(hm:m≤20)(a:α)(xs:List α)[Decidable (a∈xs)]:cmpD .NotIn (f a) (.list (xs.map f))=some (!decide (a∈xs)):=by
 show (inD (f a) (.list (xs.map f))).map (!·)=_
 rw[h.mem hm];rfl
end
def rowD(q:Str×Str):D:= .list [.str q.1,.str q.2]
def strsD(l:List Str):D:= .list (l.map .str)
def laysD(ls:List (List Str)):D:= .list (ls.map strsD)
def rowsD(q:List (Str×Str)):D:= .list (q.map rowD)
theorem Faith.strs:Faith strsD 1:=Faith.str.list
theorem Faith.row:Faith rowD 1 where
 like:=fun a b=>by simp[rowD,D.like,D.likes]
 beq:=fun a b=>by
  obtain⟨a1,a2⟩:=a
  obtain⟨b1,b2⟩:=b
  simp only[rowD,D.beq,D.beqs,Bool.and_true]
  rw[Bool.eq_iff_iff];simp
 dep:=fun a=>by simp[rowD,D.dep,D.deps]
def waysD(q:List (List (Str×Str))):D:= .list (q.map rowsD)
theorem Faith.rows:Faith rowsD 2:=Faith.row.list
theorem setL_eq{α:Type}{l:Str→Option α}{x:Str}{a:α}:setL l x a x=some a:=by unfold setL;rw[if_pos rfl]
theorem setL_ne{α:Type}{l:Str→Option α}{x y:Str}{a:α}(h:y≠x):setL l x a y=l y:=by unfold setL;rw[if_neg h]
theorem sN{α:Type}{l:Str→Option α}{x y:Str}{a:α}(h:y≠x:=by decide):setL l x a y=l y:=setL_ne h
theorem purL_val{l:LocB}{x:Str}{d:D}(h:l x=some (.val d)):purL l x=some d:=by unfold purL;rw[h]
theorem allL_val{l:LocB}{x:Str}{d:D}(h:l x=some (.val d)):allL l x=some d:=by unfold allL;rw[h]
theorem allL_own{l:LocB}{x:Str}{ds:List D}(h:l x=some (.own ds)):allL l x=some (.list ds):=by unfold allL;rw[h]
theorem sorted_strsD{xs:List Str}(h:xs.length<64):builtinD "sorted" [strsD xs]=some (strsD (sortS xs)):=by
 show (if (xs.map D.str).length<64 then (match ints? (xs.map D.str),strs? (xs.map D.str) with
       |some ns,_=>some (D.list ((sortI ns).map .int))
       |none,some ss=>some (.list ((sortS ss).map .str))
       |_,_=>none) else none)=_
 rw[if_pos (by simpa using h),strs_map]
 cases xs with
 |nil=>
  show some (D.list ((sortI []).map .int))=some (strsD (sortS []))
  simp[sortI,sortS,strsD]
 |cons x xs=>
  show (match (none:Option (List Int)),some (x::xs) with
    |some ns,_=>some (D.list ((sortI ns).map .int))
    |none,some ss=>some (.list ((sortS ss).map .str))
    |_,_=>none)=_
  rfl
theorem len_list{ds:List D}(h:ds.length≤lim):builtinD "len" [.list ds]=some (.int ds.length):=by
 show (if ds.length≤lim then some (D.int ds.length) else none)=_
 rw[if_pos h]
theorem add_lists{a b:List D}(h:a.length+b.length≤lim):binD .Add (.list a) (.list b)=some (.list (a++b)):=by
 show (if a.length+b.length≤lim then some (D.list (a++b)) else none)=_
 rw[if_pos h]
theorem sum_ints(xs:List Int):builtinD "sum" [.list (xs.map .int)]=some (.int xs.sum):=by
 show (ints? (xs.map .int)).map (fun ns=>D.int ns.sum)=_
 rw[ints_map];rfl
theorem tru_list{ds:List D}(h:ds.length≤lim):truD (.list ds)=some (!ds.isEmpty):=by
 show (if ds.length≤lim then some (!ds.isEmpty) else none)=_
 rw[if_pos h]
section
variable{fns:List (Str×Fn)}{glob:List (Str×D)}{k:Bool}{sc:Scope}{l:Loc}{a b:Expr}{p p1 p2:Pos}{n:Nat}{x d:D}{ds:List D}
theorem E_item(hs:(match b with| .Slice .. =>false|_=>true)=true){y:D}(h1:(ev fns glob n).E k sc l a=some x)(h2:(ev fns glob n).E k sc l b=some y)(h3:itemD x y=some d):(ev fns glob (n+1)).E k sc l (.Subscript a b p)=some d:=by
 show stepE fns glob (ev fns glob n) k sc l (.Subscript a b p)=_
 cases b with
 |Slice lo hi st q=>cases hs
 |_=>
  unfold stepE;dsimp only
  rw[h1,h2]
  exact h3
theorem E_from{e:Expr}{i:Nat}(h1:(ev fns glob n).E k sc l a=some (.list ds))(h2:(ev fns glob n).E k sc l e=some (.int (i:Int)))(h3:ds.length≤lim):(ev fns glob (n+1)).E k sc l (.Subscript a (.Slice (some e) none none p1) p)=some (.list (ds.drop i)):=by
 show stepE fns glob (ev fns glob n) k sc l (.Subscript a (.Slice (some e) none none p1) p)=_
 unfold stepE partD;dsimp only
 rw[h1,h2]
 show (if (none:Option Int)≠some 0∧ds.length≤lim then some (D.list (pick ds (some (i:Int)) none none)) else none)=_
 rw[if_pos ⟨by simp,h3⟩,pick_from]
theorem E_to{e:Expr}{i:Nat}(h1:(ev fns glob n).E k sc l a=some (.list ds))(h2:(ev fns glob n).E k sc l e=some (.int (i:Int)))(h3:ds.length≤lim):(ev fns glob (n+1)).E k sc l (.Subscript a (.Slice none (some e) none p1) p)=some (.list (ds.take i)):=by
 show stepE fns glob (ev fns glob n) k sc l (.Subscript a (.Slice none (some e) none p1) p)=_
 unfold stepE partD;dsimp only
 rw[h1,h2]
 show (if (none:Option Int)≠some 0∧ds.length≤lim then some (D.list (pick ds none (some (i:Int)) none)) else none)=_
 rw[if_pos ⟨by simp,h3⟩,pick_to]
theorem E_list1{x:D}(hs:PySem.W.isStarred a=false)(h:(ev fns glob n).E k sc l a=some x):(ev fns glob (n+1)).E k sc l (.List [a] p)=some (.list [x]):=by
 show (Ess (ev fns glob n) k sc l [a]).bind (fun ds=>if ds.length≤lim then some (D.list ds) else none)=_
 unfold Ess
 rw[hs]
 show (((ev fns glob n).E k sc l a).bind fun d=>(Ess (ev fns glob n) k sc l []).bind fun ds=>some (d::ds)).bind (fun ds=>if ds.length≤lim then some (D.list ds) else none)=_
 rw[h];rfl
theorem E_list2{x y:D}(hs:PySem.W.isStarred a=false)(hs':PySem.W.isStarred b=false)(h:(ev fns glob n).E k sc l a=some x)(h':(ev fns glob n).E k sc l b=some y):(ev fns glob (n+1)).E k sc l (.List [a,b] p)=some (.list [x,y]):=by
 show (Ess (ev fns glob n) k sc l [a,b]).bind (fun ds=>if ds.length≤lim then some (D.list ds) else none)=_
 unfold Ess Ess
 rw[hs,hs']
 show (((ev fns glob n).E k sc l a).bind fun d=>(((ev fns glob n).E k sc l b).bind fun d=>(Ess (ev fns glob n) k sc l []).bind fun ds=>some (d::ds)).bind fun ds=>some (d::ds)).bind (fun ds=>if ds.length≤lim then some (D.list ds) else none)=_
 rw[h,h'];rfl
theorem itL{e:Expr}(h:(ev fns glob n).E k sc l e=some (.list ds)):((ev fns glob n).E k sc l e).bind iterD=some ds:=by rw[h];rfl
theorem getD_mem{α:Type}{xs:List α}{i:Nat}{d:α}(h:i<xs.length):xs.getD i d∈xs:=by
 rw[List.getD_eq_getElem?_getD,List.getElem?_eq_getElem h];exact List.getElem_mem h
theorem getD_map{α:Type}{xs:List α}{f:α→D}{i:Nat}{d:α}(h:i<xs.length):(xs.map f)[i]? =some (f (xs.getD i d)):=by
 rw[List.getElem?_map,List.getD_eq_getElem?_getD,List.getElem?_eq_getElem h];rfl
def isVar:Option NameKind→Bool
 |some .local=>true
 |some .cell=>true
 |some .free=>true
 |_=>false
theorem isVar_or{k:Option NameKind}(h:isVar k=true):k=some .local∨k=some .cell∨k=some .free:=by
 unfold isVar at h
 split at h
 ·exact .inl rfl
 ·exact .inr (.inl rfl)
 ·exact .inr (.inr rfl)
 ·cases h
theorem E_name{x:Str}{d:D}(h1:(x==("__debug__":Str)||x==("__classdict__":Str))=false)(hk:isVar (sc.names.lookup x)=true)(h:l x=some d):(ev fns glob (n+1)).E k sc l (.Name x p)=some d:=(evName h1 (isVar_or hk)).trans h
theorem T_one{t:Expr}{c:Bool}(h:Bt (ev fns glob n) k sc l 4 t=some c):testAll (ev fns glob n) k sc l [t]=some c:=h
theorem E_rangeN{i:Nat}{pg:Pos}(hk:sc.names.lookup ("range":Str)=some .globalImplicit)(h3:(fns.lookup ("range":Str)).isSome=false)(hs:PySem.W.isStarred a=false)(ha:(ev fns glob n).E k sc l a=some (.int (i:Int)))(h:i≤1000):
  ((ev fns glob (n+1)).E k sc l (.Call (.Name "range" pg) [a] [] p)).bind iterD=some ((List.range i).map fun k:Nat=> .int (k:Int)):=by
 rw[E_builtin1 (d:= .rng 0 (i:Int)) hk kD kD kD h3 hs ha kR]
 exact rngIts h
end
theorem maxI_nat:∀(xs:List Nat) (a:Nat),maxI (a:Int) (xs.map fun k=>((k:Nat):Int))=((xs.foldl max a:Nat):Int)
 |[],a=>rfl
 |x::xs,a=>by
  show maxI (if (x:Int) > (a:Int) then (x:Int) else (a:Int)) (xs.map fun k=>((k:Nat):Int))=_
  rw[List.foldl_cons,←maxI_nat xs (max a x)]
  congr 1
  omega
def atP(layers:List (List Str))(lower:List Str):Nat:=(((List.range layers.length).filter fun k=>decide (((layers.getD k []).filter fun o=>lower.contains o)≠[])).map (·+1)).foldl max 0
def laidP(layers:List (List Str))(name:Str)(rows:List (Str×Str)):List (List Str):=
 let at':=atP layers ((rows.filter fun q=>q.2==name).map (·.1))
 layers.take at'++[(if at'=layers.length then [] else layers.getD at' [])++[name]]++layers.drop (at'+1)
theorem foldl_max_le{xs:List Nat}{b:Nat}:∀{a:Nat},a≤b→(∀x∈xs,x≤b)→xs.foldl max a≤b:=by
 induction xs with
 |nil=>intro a h _;exact h
 |cons x xs ih=>
  intro a h h2
  rw[List.foldl_cons]
  exact ih (Nat.max_le.mpr ⟨h,h2 x zmS⟩) fun y hy=>h2 y (zmC _ hy)
theorem atP_le(layers:List (List Str))(lower:List Str):atP layers lower≤layers.length:=by
 refine foldl_max_le (Nat.zero_le _) fun x hx=> ?_
 obtain⟨k,hk,rfl⟩:=zmap.mp hx
 have:=zran.mp (zfil.mp hk).1
 omega
def laid1:Fn:=fnAt Challenge.pw_oy0159_01 "_law_laid"
theorem laid_val{glob:List (Str×D)}{n:Nat}(layers:List (List Str))(name:Str)(rows:List (Str×Str))(h1:layers.length≤100)(h2:∀l∈layers,l.length≤100)(h3:rows.length≤1000):(callD fns1 (ev fns1 glob (n+20)) "_law_laid" [laysD layers,.str name,rowsD rows]).bind retOf=some (laysD (laidP layers name rows)):=by
 have hlim:lim=1000000:=rfl
 show (Ssl (ev fns1 glob (n+20)) false laid1.scope (setL (setL (setL (fun _=>none) "rows" (.val (rowsD rows))) "name" (.val (.str name))) "layers" (.val (laysD layers))) laid1.body).bind retOf=_
 show (Ssl (ev fns1 glob (n+20)) false laid1.scope _ [_,_,_]).bind retOf=_
 refine R_next (S_assign (comp1 rowD (fun q=>q.2==name) (fun q=> .str q.1) rows kR kR kR (fun q hq=>by kernel_rfl) (fun q hq _=>by kernel_rfl) kO) kR kR) ?_
 generalize hlow:(rows.filter fun q=>q.2==name)=lowr
 rw[show lowr.map (fun q=>D.str q.1)=(lowr.map (·.1)).map .str by rw[List.map_map];rfl]
 generalize hlow':lowr.map (·.1)=lower
 refine R_next (S_assign (E_builtin1 (x:= .list ((0::((List.range layers.length).filter fun k=>decide (((layers.getD k []).filter fun o=>lower.contains o)≠[])).map fun k:Nat=>(k:Int)+1).map .int)) (d:= .int ((atP layers lower:Nat):Int)) kR kR kD kD kR kR ?_ ?_) kR kR) ?_
 ·refine E_bin (x:= .list [.int 0]) kR (comp1 (fun k:Nat=> .int (k:Int)) (fun k=>decide (((layers.getD k []).filter fun o=>lower.contains o)≠[])) (fun k=> .int ((k:Int)+1)) (List.range layers.length) ?_ kR kR ?_ ?_ ?_) ?_
  ·exact E_rangeN kR kR kR (E_builtin1 (x:=laysD layers) kR kR kD kD kR kR kR ((len_list (by simp;omega)).trans (by simp))) kO
  ·intro q hq
   have hq:=zran.mp hq
   have hg:layers.getD q []∈layers:=getD_mem hq
   have hg2:=h2 _ hg
   refine T_one ((Bt_cmp kR (comp1 .str (fun o=>decide (o∈lower)) .str (layers.getD q []) ?_ kR kR ?_ (fun o ho _=>by kernel_rfl) kO) (y:= .list (([]:List Str).map .str)) kR (Faith.strs.ne kO _ _)).trans ?_)
   ·exact itL (E_item kR (x:=laysD layers) (y:= .int (q:Int)) kR kR (item_nat (d:=strsD (layers.getD q [])) (getD_map hq) (by simp;omega)))
   ·intro o ho
    exact T_one (Bt_cmp kR (x:= .str o) (y:= .list (lower.map .str)) kR kR (Faith.str.isIn kO _ _))
   ·congr 1
    rw[Bool.eq_iff_iff];simp
  ·intro q hq _
   kernel_rfl
  ·simp;omega
  ·have:=List.length_filter_le (fun k=>decide (((layers.getD k []).filter fun o=>lower.contains o)≠[])) (List.range layers.length)
   rw[List.length_range] at this
   rw[add_lists (by rw[List.length_map];simp only[List.length_singleton];omega)]
   simp[List.map_map,Function.comp_def]
 ·have e:(0::((List.range layers.length).filter fun k=>decide (((layers.getD k []).filter fun o=>lower.contains o)≠[])).map fun k:Nat=>(k:Int)+1)=(((0:Nat):Int)::(((List.range layers.length).filter fun k=>decide (((layers.getD k []).filter fun o=>lower.contains o)≠[])).map (·+1)).map fun k:Nat=>(k:Int)):=by
   simp[List.map_map,Function.comp_def]
  rw[e]
  show (ints? _).bind _=_
  rw[ints_map]
  exact congrArg (fun q=>some (D.int q)) (maxI_nat _ 0)
 ·have hat:=atP_le layers lower
  have hlaid:laidP layers name rows=layers.take (atP layers lower)++[(if atP layers lower=layers.length then [] else layers.getD (atP layers lower) [])++[name]]++layers.drop (atP layers lower+1):=by
   unfold laidP;rw[hlow,hlow']
  rw[hlaid]
  generalize atP layers lower=at' at hat
  have ht:(layers.take at').length≤100:=by rw[List.length_take];omega
  have hd:(layers.drop (at'+1)).length≤100:=by rw[List.length_drop];omega
  have hm:((if at'=layers.length then [] else layers.getD at' []):List Str).length≤100:=by
   split
   ·simp
   ·exact h2 _ (getD_mem kO)
  refine R_ret (S_ret ?_)
  refine E_bin (x:=laysD (layers.take at'++[(if at'=layers.length then [] else layers.getD at' [])++[name]])) (y:=laysD (layers.drop (at'+1))) ?_ ?_ ?_
  ·refine E_bin (x:=laysD (layers.take at')) (y:=laysD [(if at'=layers.length then [] else layers.getD at' [])++[name]]) ?_ ?_ ?_
   ·refine(E_to (i:=at') (ds:=layers.map strsD) kR kR (by simp;omega)).trans ?_
    unfold laysD;rw[List.map_take]
   ·refine E_list1 kR (x:=strsD ((if at'=layers.length then [] else layers.getD at' [])++[name])) ?_
    refine E_bin (x:=strsD (if at'=layers.length then [] else layers.getD at' [])) (y:=strsD [name]) ?_ kR ?_
    ·refine E_ifexp (c:=decide (at'=layers.length)) ?_ ?_
     ·refine(Bt_cmp kR (x:= .int (at':Int)) (y:= .int (layers.length:Int)) kR (E_builtin1 (x:=laysD layers) kR kR kD kD kR kR kR ((len_list (by simp;omega)).trans (by simp))) (Faith.int.eq kO _ _)).trans ?_
      congr 1
      rw[Bool.eq_iff_iff,decide_eq_true_eq,decide_eq_true_eq]
      omega
     ·by_cases e:at'=layers.length
      ·rw[if_pos e,decide_eq_true e]
       kernel_rfl
      ·rw[if_neg e,decide_eq_false e]
       exact E_item kR (x:=laysD layers) (y:= .int (at':Int)) kR kR (item_nat (getD_map kO) (by simp;omega))
    ·exact(add_lists (by rw[List.length_map];show _+1≤_;omega)).trans (by simp[strsD])
   ·exact(add_lists (by simp;omega)).trans (by simp[laysD])
  ·refine(E_from (i:=at'+1) (ds:=layers.map strsD) kR kR (by simp;omega)).trans ?_
   unfold laysD;rw[List.map_drop]
  ·exact(add_lists (by simp;omega)).trans (by simp[laysD])
theorem foldl_max_ge:∀(xs:List Nat) (a:Nat),a≤xs.foldl max a∧(∀x∈xs,x≤xs.foldl max a)∧(xs.foldl max a=a∨xs.foldl max a∈xs)
 |[],a=>⟨Nat.le_refl _,by simp,.inl rfl⟩
 |x::xs,a=>by
  rw[List.foldl_cons]
  obtain⟨h1,h2,h3⟩:=foldl_max_ge xs (max a x)
  refine⟨by omega,fun y hy=> ?_,?_⟩
  ·rcases zcon.mp hy with rfl|hy
   ·omega
   ·exact h2 y hy
  ·rcases h3 with h3|h3
   ·by_cases e:a≤x
    ·right;rw[h3,Nat.max_eq_right e];exact zmS
    ·left;rw[h3];omega
   ·right;exact zmC _ h3
def lv(L:List (List Str))(k:Nat):List Str:=L.getD k []
theorem lv_out{L:List (List Str)}{k:Nat}(h:L.length≤k):lv L k=[]:=by
 unfold lv;rw[List.getD_eq_getElem?_getD,List.getElem?_eq_none h];rfl
theorem at_spec(L:List (List Str))(lower:List Str):(∀k x,x∈lv L k→x∈lower→k+1≤atP L lower)∧(atP L lower=0∨∃k x,atP L lower=k+1∧x∈lv L k∧x∈lower):=by
 unfold atP
 obtain⟨h1,h2,h3⟩:=foldl_max_ge (((List.range L.length).filter fun k=>decide (((L.getD k []).filter fun o=>lower.contains o)≠[])).map (·+1)) 0
 constructor
 ·intro k x hx hl
  have hk:k<L.length:=Nat.lt_of_not_le fun h=>by rw[lv_out h] at hx;cases hx
  refine h2 _ (zmap.mpr ⟨k,zfil.mpr ⟨zran.mpr hk,decide_eq_true fun e=> ?_⟩,rfl⟩)
  have:x∈(L.getD k []).filter fun o=>lower.contains o:=zfil.mpr ⟨hx,by simpa using hl⟩
  rw[e] at this;cases this
 ·rcases h3 with h3|h3
  ·exact .inl h3
  ·right
   obtain⟨k,hk,e⟩:=zmap.mp h3
   obtain⟨_,g⟩:=zfil.mp hk
   have g:=of_decide_eq_true g
   obtain⟨x,hx⟩:=List.exists_mem_of_ne_nil _ g
   obtain⟨hx1,hx2⟩:=zfil.mp hx
   exact⟨k,x,e.symm,hx1,by simpa using hx2⟩
theorem laid_lv(L:List (List Str))(name:Str)(rows:List (Str×Str)):∃at',at'=atP L ((rows.filter fun q=>q.2==name).map (·.1))∧(laidP L name rows).length=max L.length (at'+1)∧∀k,lv (laidP L name rows) k=if k=at' then lv L at'++[name] else lv L k:=by
 refine⟨_,rfl,?_⟩
 unfold laidP
 dsimp only
 have hat:=atP_le L ((rows.filter fun q=>q.2==name).map (·.1))
 generalize atP L ((rows.filter fun q=>q.2==name).map (·.1))=at' at hat
 have hmid:(if at'=L.length then [] else L.getD at' [])=lv L at':=by
  split
  ·rename_i e;rw[lv_out kO]
  ·rfl
 rw[hmid]
 constructor
 ·simp only[List.length_append,List.length_take,List.length_drop,List.length_cons,List.length_nil]
  omega
 ·intro k
  unfold lv
  simp only[List.getD_eq_getElem?_getD]
  by_cases e1:k<at'
  ·rw[if_neg kO,List.append_assoc,List.getElem?_append_left (by rw[List.length_take];omega),List.getElem?_take,if_pos e1]
  ·by_cases e2:k=at'
   ·subst e2
    rw[if_pos rfl,List.append_assoc,List.getElem?_append_right (by rw[List.length_take];omega),List.length_take]
    have:k - min k L.length=0:=by omega
    rw[this];rfl
   ·rw[if_neg e2,List.getElem?_append_right (by simp only[List.length_append,List.length_take,List.length_cons,List.length_nil];omega),List.getElem?_drop]
    have:at'+1+(k - (L.take at'++[(L[at']?).getD []++[name]]).length)=k:=by
     simp only[List.length_append,List.length_take,List.length_cons,List.length_nil];omega
    rw[this]
structure Lay(R:Str→Str→Prop)(p:List Str)(L:List (List Str)):Prop where
 mem:∀z,z∈p↔∃k,z∈lv L k
 ne:∀k,k<L.length→lv L k≠[]
 up:∀x y i j,R x y→x∈lv L i→y∈lv L j→i<j
 low:∀k y,y∈lv L (k+1)→∃x∈lv L k,R x y
theorem Lay.step{R:Str→Str→Prop}{rows:List (Str×Str)}(hR:∀x y,R x y↔(x,y)∈rows){p:List Str}{L:List (List Str)}(h:Lay R p L){name:Str}(hn:name∉p)(hirr:¬R name name)(h1:∀x,R x name→x∈p)(h2:∀y∈p,¬R name y):Lay R (p++[name]) (laidP L name rows):=by
 obtain⟨at',he,hlen,hk⟩:=laid_lv L name rows
 obtain⟨a1,a2⟩:=at_spec L ((rows.filter fun q=>q.2==name).map (·.1))
 rw[←he] at a1 a2
 have hlow:∀x,x∈(rows.filter fun q=>q.2==name).map (·.1)↔R x name:=fun x=>by
  rw[hR]
  constructor
  ·intro hx
   obtain⟨q,hq,rfl⟩:=zmap.mp hx
   obtain⟨g1,g2⟩:=zfil.mp hq
   have:q.2=name:=by simpa using g2
   rw[←this];exact g1
  ·intro hx
   exact zmap.mpr ⟨(x,name),zfil.mpr ⟨hx,by simp⟩,rfl⟩
 have hnl:∀k,name∉lv L k:=fun k hm=>hn ((h.mem name).mpr ⟨k,hm⟩)
 have hmem:∀k z,z∈lv (laidP L name rows) k↔z∈lv L k∨(k=at'∧z=name):=fun k z=>by
  rw[hk]
  split
  ·rename_i e;subst e;simp
  ·rename_i e;simp[e]
 refine⟨fun z=> ?_,fun k hkl=> ?_,fun x y i j hr hx hy=> ?_,fun k y hy=> ?_⟩
 ·rw[List.mem_append,List.mem_singleton,h.mem]
  constructor
  ·rintro (⟨k,hz⟩|rfl)
   ·exact⟨k,(hmem k z).mpr (.inl hz)⟩
   ·exact⟨at',(hmem _ _).mpr (.inr ⟨rfl,rfl⟩)⟩
  ·rintro ⟨k,hz⟩
   rcases (hmem k z).mp hz with hz|⟨_,rfl⟩
   ·exact .inl ⟨k,hz⟩
   ·exact .inr rfl
 ·rw[hk]
  split
  ·simp
  ·rename_i e
   refine h.ne k ?_
   have hle:=atP_le L ((rows.filter fun q=>q.2==name).map (·.1))
   rw[←he] at hle
   omega
 ·rcases (hmem i x).mp hx with hx'|⟨e1,e2⟩
  ·rcases (hmem j y).mp hy with hy'|⟨e1,e2⟩
   ·exact h.up x y i j hr hx' hy'
   ·rw[e2] at hr
    have:=a1 i x hx' ((hlow x).mpr hr)
    omega
  ·rw[e2] at hr
   rcases (hmem j y).mp hy with hy'|⟨e3,e4⟩
   ·exact absurd hr (h2 y ((h.mem y).mpr ⟨j,hy'⟩))
   ·rw[e4] at hr;exact absurd hr hirr
 ·rcases (hmem (k+1) y).mp hy with hy|⟨e,rfl⟩
  ·obtain⟨x,hx,hr⟩:=h.low k y hy
   exact⟨x,(hmem k x).mpr (.inl hx),hr⟩
  ·rcases a2 with a2|⟨k',x,a2,hx,hl⟩
   ·omega
   ·have:k'=k:=by omega
    subst this
    exact⟨x,(hmem _ _).mpr (.inl hx),(hlow x).mp hl⟩
theorem lay_all{R:Str→Str→Prop}{rows:List (Str×Str)}(hR:∀x y,R x y↔(x,y)∈rows)(O:Ord R):∀(rest p:List Str) (L:List (List Str)),Lay R p L→(p++rest).Nodup→(∀x y,R x y→x∈p++rest∧y∈p++rest)→(p++rest).Pairwise (fun a b=>¬R b a)→Lay R (p++rest) (rest.foldl (fun made name=>laidP made name rows) L)
 |[],p,L,h,_,_,_=>by rw[List.append_nil];exact h
 |name::rest,p,L,h,hn,hm,hp=>by
  rw[List.foldl_cons]
  have e:p++name::rest=(p++[name])++rest:=by simp
  rw[e]
  rw[e] at hn hm hp
  obtain⟨n1,n2,n3⟩:=List.nodup_append.mp hn
  obtain⟨m1,m2,m3⟩:=List.nodup_append.mp n1
  obtain⟨p1,p2,p3⟩:=List.pairwise_append.mp hp
  obtain⟨q1,q2,q3⟩:=List.pairwise_append.mp p1
  refine lay_all hR O rest (p++[name]) _ (h.step hR (fun hh=>m3 name hh name (by simp) rfl) (O.irr name) (fun x hx=> ?_) fun y hy=>q3 y hy name (by simp)) hn hm hp
  have hx1:=(hm x name hx).1
  rcases zapp.mp hx1 with hx1|hx1
  ·rcases zapp.mp hx1 with hx1|hx1
   ·exact hx1
   ·simp at hx1
    rw[hx1] at hx;exact absurd hx (O.irr name)
  ·exact absurd hx (p3 name (by simp) x hx1)
theorem lay_start(R:Str→Str→Prop):Lay R [] [] where
 mem:=fun z=>⟨fun h=>(by cases h),fun⟨k,h⟩=>by rw[lv_out (by simp)] at h;cases h⟩
 ne:=fun k h=>by simp at h
 up:=fun x y i j _ h=>by rw[lv_out (by simp)] at h;cases h
 low:=fun k y h=>by rw[lv_out (by simp)] at h;cases h
theorem Lay.chain{R:Str→Str→Prop}{p:List Str}{L:List (List Str)}(O:Ord R)(h:Lay R p L):∀(k:Nat) (y:Str),y∈lv L k→∃c:List Str,c.length=k+1∧c.Pairwise R∧(∀z∈c,z∈p)∧(∀z∈c,z=y∨R z y)
 |0,y,hy=>⟨[y],rfl,List.pairwise_singleton _ _,fun z hz=>by simp at hz;subst hz;exact(h.mem z).mpr ⟨0,hy⟩,fun z hz=>by simp at hz;exact .inl hz⟩
 |k+1,y,hy=>by
  obtain⟨x,hx,hr⟩:=h.low k y hy
  obtain⟨c,c1,c2,c3,c4⟩:=h.chain O k x hx
  have hb:∀z∈c,R z y:=fun z hz=>by
   rcases c4 z hz with rfl|hz
   ·exact hr
   ·exact O.tr _ _ _ hz hr
  refine⟨c++[y],by simp[c1],List.pairwise_append.mpr ⟨c2,List.pairwise_singleton _ _,fun z hz w hw=>by simp at hw;subst hw;exact hb z hz⟩,fun z hz=> ?_,fun z hz=> ?_⟩
  ·rcases zapp.mp hz with hz|hz
   ·exact c3 z hz
   ·simp at hz;subst hz;exact(h.mem z).mpr ⟨_,hy⟩
  ·rcases zapp.mp hz with hz|hz
   ·exact .inr (hb z hz)
   ·simp at hz;exact .inl hz
theorem Lay.long{R:Str→Str→Prop}{p:List Str}{L:List (List Str)}(h:Lay R p L):∀(c:List Str) (i:Nat),c.Pairwise R→(∀z∈c,z∈p)→(∀z k,c.head? =some z→z∈lv L k→i≤k)→i≤L.length→i+c.length≤L.length
 |[],i,_,_,_,hi=>by simpa using hi
 |z::c,i,hp,hm,hh,_=>by
  obtain⟨k,hk⟩:=(h.mem z).mp (hm z zmS)
  have hkl:k<L.length:=Nat.lt_of_not_le fun e=>by rw[lv_out e] at hk;cases hk
  have hik:=hh z k rfl hk
  have:=h.long c (k+1) (List.pairwise_cons.mp hp).2 (fun w hw=>hm w (zmC _ hw)) (fun w j hw hj=>by
   have hwc:w∈c:=by
    cases c with
    |nil=>cases hw
    |cons a c=>have:some a=some w:=hw
               cases this
               exact zmS
   have:=h.up z w k j (List.rel_of_pairwise_cons hp hwc) hk hj
   omega) kO
  simp only[List.length_cons]
  omega
theorem mirsky{R:Str→Str→Prop}{rows:List (Str×Str)}(hR:∀x y,R x y↔(x,y)∈rows)(O:Ord R){out:List Str}(hn:out.Nodup)(hm:∀x y,R x y→x∈out∧y∈out)(hp:out.Pairwise (fun a b=>¬R b a))(layers:List (List Str))(hl:layers=out.foldl (fun made name=>laidP made name rows) []):
  (∃c:List Str,c.length=layers.length∧c.Pairwise R∧∀z∈c,z∈out)∧(∀c:List Str,c.Pairwise R→(∀z∈c,z∈out)→c.length≤layers.length)∧∀ly∈layers,∀q∈rows,¬(q.1∈ly∧q.2∈ly):=by
 have h:Lay R ([]++out) layers:=by
  rw[hl]
  exact lay_all hR O out [] [] (lay_start R) hn hm hp
 rw[List.nil_append] at h
 refine⟨?_,fun c hc hm'=> ?_,fun ly hly q hq ⟨g1,g2⟩=> ?_⟩
 ·cases hL:layers.length with
  |zero=>exact⟨[],rfl,List.Pairwise.nil,fun z hz=>by cases hz⟩
  |succ k=>
   obtain⟨y,hy⟩:=List.exists_mem_of_ne_nil _ (h.ne k kO)
   obtain⟨c,c1,c2,c3,_⟩:=h.chain O k y hy
   exact⟨c,c1,c2,c3⟩
 ·have:=h.long c 0 hc hm' (fun _ _ _ _=>Nat.zero_le _) (Nat.zero_le _)
  omega
 ·obtain⟨k,hk,e⟩:=List.getElem_of_mem hly
  have e:lv layers k=ly:=by
   unfold lv
   rw[List.getD_eq_getElem?_getD,List.getElem?_eq_getElem hk,e];rfl
  rw[←e] at g1 g2
  exact Nat.lt_irrefl _ (h.up q.1 q.2 k k ((hR _ _).mpr hq) g1 g2)
def keyP(one:List (Str×Str)):List Str:=sortS (one.map (·.2))
def addP(q:List (List (Str×Str))×List (List Str))(one:List (Str×Str)):List (List (Str×Str))×List (List Str):=if keyP one∈q.2 then q else (q.1++[one],q.2++[keyP one])
def optsP(name:Str)(rows:List (Str×Str))(state:List (Str×Str)):List (List (Str×Str)):=state::(rows.filter fun q=>q.1==name&& !decide (q.2∈state.map (·.2))).map fun q=>state++[q]
def joinedP(states:List (List (Str×Str)))(name:Str)(rows:List (Str×Str)):List (List (Str×Str)):=((states.flatMap (optsP name rows)).foldl addP ([],[])).1
theorem addP_len(xs:List (List (Str×Str))):∀q,q.1.length=q.2.length→(xs.foldl addP q).1.length=(xs.foldl addP q).2.length∧(xs.foldl addP q).1.length≤q.1.length+xs.length:=by
 induction xs with
 |nil=>intro q h;exact⟨h,by simp⟩
 |cons x xs ih=>
  intro q h
  rw[List.foldl_cons]
  by_cases e:keyP x∈q.2
  ·have:addP q x=q:=by unfold addP;rw[if_pos e]
   rw[this]
   have:=ih q h
   refine⟨this.1,?_⟩
   have:=this.2
   simp only[List.length_cons];omega
  ·have h2:addP q x=(q.1++[x],q.2++[keyP x]):=by unfold addP;rw[if_neg e]
   rw[h2]
   have:=ih (q.1++[x],q.2++[keyP x]) (by simp[h])
   refine⟨this.1,?_⟩
   have:=this.2
   simp only[List.length_cons,List.length_append,List.length_nil] at this ⊢;omega
def joined1:Fn:=fnAt Challenge.pw_oy0159_01 "_law_joined"
structure JInv(name:Str)(rows:List (Str×Str))(l:LocB)(q:List (List (Str×Str))×List (List Str)):Prop where
 made:l "made"=some (.own (q.1.map rowsD))
 seen:l "seen"=some (.own (q.2.map strsD))
 name:l "name"=some (.val (.str name))
 rows:l "rows"=some (.val (rowsD rows))
theorem JInv.set{name:Str}{rows:List (Str×Str)}{l:LocB}{q:List (List (Str×Str))×List (List Str)}(h:JInv name rows l q){x:Str}{b:B}(h1:x∈(["state","laid","one","key"]:List Str)):JInv name rows (setL l x b) q:=by
 have hne:∀y∈(["made","seen","name","rows"]:List Str),y≠x:=by
  intro y hy
  simp only[List.mem_cons,List.not_mem_nil,or_false] at h1 hy
  rcases h1 with rfl|rfl|rfl|rfl <;> rcases hy with rfl|rfl|rfl|rfl <;> decide
 exact⟨(setL_ne (hne _ (by simp))).trans h.made,(setL_ne (hne _ (by simp))).trans h.seen,(setL_ne (hne _ (by simp))).trans h.name,(setL_ne (hne _ (by simp))).trans h.rows⟩
def innerFor:List Stmt→Stmt
 |[_,_,.For _ _ [_,s] _ _,_]=>s
 |_=> .Pass ⟨0,0,0,0⟩
def forT:Stmt→Expr| .For t _ _ _ _=>t|_=> .Constant .none 0 ⟨0,0,0,0⟩
def forB:Stmt→List Stmt| .For _ _ b _ _=>b|_=>[]
theorem joined_inner{glob:List (Str×D)}{n:Nat}{name:Str}{rows:List (Str×Str)}:∀(ones:List (List (Str×Str))) (l:LocB) (q:List (List (Str×Str))×List (List Str)),JInv name rows l q→q.1.length=q.2.length→q.1.length+ones.length≤100000→(∀o∈ones,o.length≤50)→
  ∃l',forL (ev fns1 glob (n+15)) false joined1.scope (forT (innerFor joined1.body)) (forB (innerFor joined1.body)) l (ones.map rowsD)=some (.next,l')∧JInv name rows l' (ones.foldl addP q)
 |[],l,q,h,_,_,_=>⟨l,forL_nil,h⟩
 |one::ones,l,q,h,he,hl,ho=>by
  have hlim:lim=1000000:=rfl
  have hone:=ho one zmS
  simp only[List.length_cons] at hl
  have h1:=h.set (x:="one") (b:= .val (rowsD one)) (by simp)
  have h2:=h1.set (x:="key") (b:= .val (strsD (keyP one))) (by simp)
  generalize hl1:setL l "one" (.val (rowsD one))=l1 at h1 h2
  have hk:(ev fns1 glob (n+15)).S false joined1.scope l1 ((forB (innerFor joined1.body)).getD 0 (.Pass ⟨0,0,0,0⟩))=some (.next,setL l1 "key" (.val (strsD (keyP one)))):=by
   refine S_assign (E_builtin1 (x:=strsD (one.map (·.2))) kR kR kD kD kR kR ?_ (sorted_strsD (by simp;omega))) kR kR
   refine(comp0 rowD (fun q=> .str q.2) one (itL (E_name kR kR (purL_val (by rw[←hl1];exact setL_eq)))) kR kR (fun q hq=>by kernel_rfl) kO).trans ?_
   unfold strsD;rw[List.map_map];rfl
  generalize hl2:setL l1 "key" (.val (strsD (keyP one)))=l2 at h2 hk
  have hkey:l2 "key"=some (.val (strsD (keyP one))):=by rw[←hl2];exact setL_eq
  have hone2:l2 "one"=some (.val (rowsD one)):=by rw[←hl2,←hl1,setL_ne kD];exact setL_eq
  have ht:Bt (ev fns1 glob (n+14)) false joined1.scope (allL l2) 4 (match (forB (innerFor joined1.body)).getD 1 (.Pass ⟨0,0,0,0⟩) with| .If t _ _ _=>t|_=> .Constant .none 0 ⟨0,0,0,0⟩)=some (!decide (keyP one∈q.2)):=
   Bt_cmp kR (x:=strsD (keyP one)) (y:= .list (q.2.map strsD)) (E_name kR kR (allL_val hkey)) (E_name kR kR (allL_own h2.seen)) (Faith.strs.notIn kO _ _)
  have hb:∃l3,Ssl (ev fns1 glob (n+15)) false joined1.scope l1 (forB (innerFor joined1.body))=some (.next,l3)∧JInv name rows l3 (addP q one):=by
   show∃l3,Ssl (ev fns1 glob (n+15)) false joined1.scope l1 [_,.If _ [_,_] [] _]=some (.next,l3)∧_
   by_cases e:keyP one∈q.2
   ·refine⟨l2,?_,?_⟩
    ·refine(Ssl_next hk).trans ((Ssl_next ((S_if ht).trans ?_)).trans Ssl_nil)
     rw[decide_eq_true e]
     exact Ssl_nil
    ·have:addP q one=q:=by unfold addP;rw[if_pos e]
     rw[this];exact h2
   ·have hq:addP q one=(q.1++[one],q.2++[keyP one]):=by unfold addP;rw[if_neg e]
    rw[hq]
    refine⟨setL (setL l2 "seen" (.own (q.2.map strsD++[strsD (keyP one)]))) "made" (.own (q.1.map rowsD++[rowsD one])),?_,?_⟩
    ·refine(Ssl_next hk).trans ((Ssl_next ((S_if ht).trans ?_)).trans Ssl_nil)
     rw[decide_eq_false e]
     refine(Ssl_next (S_append h2.seen (E_name kR kR (purL_val hkey)) kR kR kR kR (by simp;omega))).trans ?_
     refine(Ssl_next (S_append ((sN).trans h2.made) (E_name kR kR (purL_val ((sN).trans hone2))) kR kR kR kR (by simp;omega))).trans Ssl_nil
    ·refine⟨setL_eq.trans (by simp),(sN).trans (setL_eq.trans (by simp)),(sN).trans ((sN).trans h2.name),(sN).trans ((sN).trans h2.rows)⟩
  obtain⟨l3,e3,h3⟩:=hb
  have hlen:=addP_len [one] q he
  simp only[List.foldl_cons,List.foldl_nil,List.length_cons,List.length_nil] at hlen
  obtain⟨l',e',h'⟩:=joined_inner ones l3 (addP q one) h3 hlen.1 kO fun o ho'=>ho o (zmC _ ho')
  exact⟨l',(forL_next (by rw[←hl1];rfl) e3).trans e',h'⟩
theorem optsP_len{name:Str}{rows:List (Str×Str)}{state:List (Str×Str)}(h:(rows.filter fun q=>q.1==name).length≤5):(optsP name rows state).length≤6:=by
 unfold optsP
 have:(rows.filter fun q=>q.1==name&& !decide (q.2∈state.map (·.2))).length≤(rows.filter fun q=>q.1==name).length:=by
  rw[show (rows.filter fun q=>q.1==name&& !decide (q.2∈state.map (·.2)))=(rows.filter fun q=>q.1==name).filter fun q=> !decide (q.2∈state.map (·.2)) by
   rw[List.filter_filter]
   refine List.filter_congr fun q _=> ?_
   exact Bool.and_comm _ _]
  exact List.length_filter_le _ _
 simp only[List.length_cons,List.length_map]
 omega
theorem optsP_mem{name:Str}{rows:List (Str×Str)}{state o:List (Str×Str)}(h:o∈optsP name rows state):o.length≤state.length+1:=by
 unfold optsP at h
 rcases zcon.mp h with rfl|h
 ·omega
 ·obtain⟨q,_,rfl⟩:=zmap.mp h
  simp
def outFor:List Stmt→Stmt
 |[_,_,s,_]=>s
 |_=> .Pass ⟨0,0,0,0⟩
theorem joined_outer{glob:List (Str×D)}{n:Nat}{name:Str}{rows:List (Str×Str)}(hr:rows.length≤1000)(hf:(rows.filter fun q=>q.1==name).length≤5):∀(states:List (List (Str×Str))) (l:LocB) (q:List (List (Str×Str))×List (List Str)),JInv name rows l q→q.1.length=q.2.length→q.1.length+6 * states.length≤100000→(∀o∈states,o.length≤49)→
  ∃l',forL (ev fns1 glob (n+16)) false joined1.scope (forT (outFor joined1.body)) (forB (outFor joined1.body)) l (states.map rowsD)=some (.next,l')∧JInv name rows l' ((states.flatMap (optsP name rows)).foldl addP q)
 |[],l,q,h,_,_,_=>⟨l,forL_nil,h⟩
 |state::states,l,q,h,he,hl,ho=>by
  have hlim:lim=1000000:=rfl
  have hst:=ho state zmS
  simp only[List.length_cons] at hl
  have h1:=h.set (x:="state") (b:= .val (rowsD state)) (by simp)
  have h2:=h1.set (x:="laid") (b:= .val (strsD (state.map (·.2)))) (by simp)
  generalize hl1:setL l "state" (.val (rowsD state))=l1 at h1 h2
  have hs1:l1 "state"=some (.val (rowsD state)):=by rw[←hl1];exact setL_eq
  generalize hl2:setL l1 "laid" (.val (strsD (state.map (·.2))))=l2 at h2
  have hs2:l2 "state"=some (.val (rowsD state)):=by rw[←hl2,setL_ne kD];exact hs1
  have hla2:l2 "laid"=some (.val (strsD (state.map (·.2)))):=by rw[←hl2];exact setL_eq
  have hopt:=optsP_len (state:=state) hf
  obtain⟨l3,e3,h3⟩:=joined_inner (glob:=glob) (n:=n) (optsP name rows state) l2 q h2 he kO fun o hm=>by have:=optsP_mem hm;omega
  have hlen:=addP_len (optsP name rows state) q he
  have hb:Ssl (ev fns1 glob (n+16)) false joined1.scope l1 (forB (outFor joined1.body))=some (.next,l3):=by
   show Ssl (ev fns1 glob (n+16)) false joined1.scope l1 [_,.For _ (.BinOp _ .Add _ _) _ [] _]=_
   refine(Ssl_next (l1:=l2) (by rw[←hl2];exact S_assign ((comp0 rowD (fun q=> .str q.2) state (itL (E_name kR kR (purL_val hs1))) kR kR (fun q hq=>by kernel_rfl) kO).trans (by unfold strsD;rw[List.map_map];rfl)) kR kR)).trans ?_
   refine(Ssl_next (S_forN (its:=(optsP name rows state).map rowsD) kR ?_ e3)).trans Ssl_nil
   ·refine itL ?_
    refine E_bin (x:=waysD [state]) (y:=waysD ((rows.filter fun q=>q.1==name&& !decide (q.2∈state.map (·.2))).map fun q=>state++[q])) ?_ ?_ ?_
    ·exact E_list1 kR (E_name kR kR (purL_val hs2))
    ·refine(comp1 rowD (fun q=>q.1==name&& !decide (q.2∈state.map (·.2))) (fun q=>rowsD (state++[q])) rows (itL (E_name kR kR (purL_val h2.rows))) kR kR ?_ ?_ kO).trans ?_
     ·intro p hp
      refine T_one (Bt_and ?_ ?_)
      ·refine Bt_cmp kR (x:= .str p.1) (y:= .str name) kR (E_name kR kR ?_) kR
       exact(purL_val h2.name:purL l2 "name"=_)
      ·refine Bt_cmp kR (x:= .str p.2) (y:= .list ((state.map (·.2)).map .str)) kR (E_name kR kR ?_) (Faith.str.notIn kO _ _)
       exact(purL_val hla2:purL l2 "laid"=_)
     ·intro p hp _
      refine E_bin (x:=rowsD state) (y:= .list [rowD p]) (E_name kR kR ?_) kR ?_
      ·exact(purL_val hs2:purL l2 "state"=_)
      ·exact(add_lists (by rw[List.length_map];show _+1≤_;omega)).trans (by simp[rowsD])
     ·unfold waysD
      rw[List.map_map];rfl
    ·refine(add_lists ?_).trans ?_
     ·have:(rows.filter fun q=>q.1==name&& !decide (q.2∈state.map (·.2))).length≤rows.length:=List.length_filter_le _ _
      simp only[List.length_map,List.length_singleton];omega
     ·unfold optsP
      simp
  obtain⟨l',e',h'⟩:=joined_outer hr hf states l3 _ h3 hlen.1 kO fun o ho'=>ho o (zmC _ ho')
  refine⟨l',(forL_next (by rw[←hl1];rfl) hb).trans e',?_⟩
  rw[List.flatMap_cons,List.foldl_append]
  exact h'
theorem joined_val{glob:List (Str×D)}{n:Nat}(states:List (List (Str×Str)))(name:Str)(rows:List (Str×Str))(hr:rows.length≤1000)(hf:(rows.filter fun q=>q.1==name).length≤5)(h1:states.length≤10000)(h2:∀o∈states,o.length≤49):
  (callD fns1 (ev fns1 glob (n+20)) "_law_joined" [waysD states,.str name,rowsD rows]).bind retOf=some (waysD (joinedP states name rows)):=by
 show (Ssl (ev fns1 glob (n+20)) false joined1.scope (setL (setL (setL (fun _=>none) "rows" (.val (rowsD rows))) "name" (.val (.str name))) "states" (.val (waysD states))) joined1.body).bind retOf=_
 show (Ssl (ev fns1 glob (n+20)) false joined1.scope _ [_,_,.For _ (.Name _ _) _ [] _,_]).bind retOf=_
 refine R_next (S_assignOwn (ds:=[]) kR kR kR kR) ?_
 refine R_next (S_assignOwn (ds:=[]) kR kR kR kR) ?_
 obtain⟨l',e',h'⟩:=joined_outer (glob:=glob) (n:=n+3) (name:=name) hr hf states (setL (setL (setL (setL (setL (fun _=>none) "rows" (.val (rowsD rows))) "name" (.val (.str name))) "states" (.val (waysD states))) "made" (.own [])) "seen" (.own [])) ([],[]) ⟨kR,kR,kR,kR⟩ rfl (by simp;omega) h2
 refine R_next (S_forN (its:=states.map rowsD) kR kR e') (R_ret (S_ret (E_name kR kR (allL_own h'.made))))
section
variable{fns:List (Str×Fn)}{glob:List (Str×D)}{k:Bool}{sc csc:Scope}{l:Loc}{it it2 elt ke ve:Expr}{ifs ifs2:List Expr}{x y z:Str}{tp tp2 pos:Pos}{n:Nat}
theorem dcomp{α:Type}(f:α→D)(t:α→Bool)(ek:α→Str)(e:α→D)(xs:List α){a:Int}{kvs:List (Str×D)}(hit:((ev fns glob n).E k sc l it).bind iterD=some (xs.map f))(ok:okComp sc csc [⟨.Name x tp,it,ifs,a⟩]=true)(hx:(compLoc csc l x).isSome=false)
  (ht:∀q∈xs,testAll (ev fns glob n) k (ownSc sc csc) (setL (compLoc csc l) x (f q)) ifs=some (t q)) (hk:∀q∈xs,t q=true→(ev fns glob n).E k (ownSc sc csc) (setL (compLoc csc l) x (f q)) ke=some (.str (ek q))) (he:∀q∈xs,t q=true→(ev fns glob n).E k (ownSc sc csc) (setL (compLoc csc l) x (f q)) ve=some (e q)) (hl:xs.length≤lim)
  (hd:dictS? [] ((xs.filter t).map fun q=> .tup [.str (ek q),e q])=some kvs):
  (ev fns glob (n+1)).E k sc l (.DictComp ke ve [⟨.Name x tp,it,ifs,a⟩] csc pos)=some (.dictS kvs):=by
 have h1:=loop1 (it:=it) (tp:=tp) (k:=k) f t (fun q=> .tup [.str (ek q),e q]) (emitS (ev fns glob n) k (ownSc sc csc) ke ve) xs a hx ht fun q hq hh=>by
  unfold emitS
  rw[hk q hq hh,he q hq hh];rfl
 show (((ev fns glob n).E k sc l it).bind iterD).bind (fun its=>if okComp sc csc [⟨.Name x tp,it,ifs,a⟩]=true then (match compLoop (ev fns glob n) k (ownSc sc csc) (compLoc csc l) ⟨.Name x tp,it,ifs,a⟩ (fun l'=>(emitS (ev fns glob n) k (ownSc sc csc) ke ve l').map fun x=>[x]) its with
  |some ps=>if ps.length≤lim then (dictS? [] ps).map D.dictS else none
  |none=>(comp (ev fns glob n) k (ownSc sc csc) (emitI (ev fns glob n) k (ownSc sc csc) ke ve) [⟨.Name x tp,it,ifs,a⟩] (compLoc csc l) its).bind fun ps=>if ps.length≤lim then (dictI? [] ps).map D.dictI else none) else none)=_
 rw[hit]
 show (if okComp sc csc [⟨.Name x tp,it,ifs,a⟩]=true then (match compLoop (ev fns glob n) k (ownSc sc csc) (compLoc csc l) ⟨.Name x tp,it,ifs,a⟩ (fun l'=>(emitS (ev fns glob n) k (ownSc sc csc) ke ve l').map fun x=>[x]) (xs.map f) with
  |some ps=>if ps.length≤lim then (dictS? [] ps).map D.dictS else none
  |none=>(comp (ev fns glob n) k (ownSc sc csc) (emitI (ev fns glob n) k (ownSc sc csc) ke ve) [⟨.Name x tp,it,ifs,a⟩] (compLoc csc l) (xs.map f)).bind fun ps=>if ps.length≤lim then (dictI? [] ps).map D.dictI else none) else none)=_
 rw[if_pos ok,h1]
 dsimp only
 rw[if_pos (by rw[List.length_map];exact znT (List.length_filter_le _ _) hl),hd];rfl
theorem dictS_new{α:Type}(ek:α→Str)(e:α→D):∀(xs:List α) (acc:List (Str×D)),(xs.map ek).Nodup→(∀q∈xs,(acc.lookup (ek q)).isSome=false)→dictS? acc (xs.map fun q=> .tup [.str (ek q),e q])=some (acc++xs.map fun q=>(ek q,e q))
 |[],acc,_,_=>by simp[dictS?]
 |q::xs,acc,hn,ha=>by
  rw[List.map_cons]
  show dictS? (storedS acc (ek q) (e q)) (xs.map fun q=> .tup [.str (ek q),e q])=_
  have h0:=ha q zmS
  have hs:storedS acc (ek q) (e q)=acc++[(ek q,e q)]:=by
   unfold storedS;rw[h0];rfl
  rw[hs,dictS_new ek e xs (acc++[(ek q,e q)]) (znco.mp hn).2]
  ·simp
  ·intro p hp
   have h1:=ha p (zmC _ hp)
   rw[List.lookup_append]
   have h2:acc.lookup (ek p)=none:=by
    cases e:acc.lookup (ek p) with
    |none=>rfl
    |some v=>rw[e] at h1;cases h1
   have hne:(ek p==ek q)=false:=by
    rw[beq_eq_false_iff_ne]
    intro e'
    exact(znco.mp hn).1 (e'▸List.mem_map_of_mem hp)
   rw[h2]
   simp[List.lookup_cons,hne]
end
def nextL(way:List (Str×Str))(line:List Str):List Str:=match line.getLast? with
 |some x=>(match way.lookup x with
  |some y=>line++[y]
  |none=>line)
 |none=>line
def lines0(names:List Str)(way:List (Str×Str)):List (List Str):=(names.filter fun x=> !decide (x∈way.map (·.2))).map fun x=>[x]
def linesP(names:List Str)(way:List (Str×Str)):List (List Str):=names.foldl (fun ls _=>ls.map (nextL way)) (lines0 names way)
def lines1:Fn:=fnAt Challenge.pw_oy0159_01 "_law_lines"
theorem lookup_map2{way:List (Str×Str)}{x:Str}:(way.map fun q=>(q.1,D.str q.2)).lookup x=(way.lookup x).map .str:=by
 induction way with
 |nil=>rfl
 |cons q way ih=>
  obtain⟨a,b⟩:=q
  rw[List.map_cons,List.lookup_cons,List.lookup_cons]
  cases h:x==a with
  |true=>rfl
  |false=>exact ih
theorem nextL_len(way:List (Str×Str))(line:List Str):(nextL way line).length≤line.length+1∧(line≠[]→nextL way line≠[]):=by
 unfold nextL
 split
 ·split
  ·simp
  ·exact⟨by omega,id⟩
 ·exact⟨by omega,id⟩
def forFirst:List Stmt→Stmt
 |[_,_,s,_]=>s
 |_=> .Pass ⟨0,0,0,0⟩
theorem lines_loop{glob:List (Str×D)}{n:Nat}{way:List (Str×Str)}:∀(names:List Str) (l:LocB) (ls:List (List Str)),l "nexts"=some (.val (D.dictS (way.map fun q:Str×Str=>(q.1,D.str q.2))))→l "lines"=some (.val (laysD ls))→ls.length≤1000→(∀x∈ls,x≠[]∧x.length+names.length≤1000)→
  ∃l',forL (ev fns1 glob (n+15)) false lines1.scope (forT (forFirst lines1.body)) (forB (forFirst lines1.body)) l (names.map .str)=some (.next,l')∧l' "lines"=some (.val (laysD (names.foldl (fun ls _=>ls.map (nextL way)) ls)))
 |[],l,ls,h1,h2,_,_=>⟨l,forL_nil,h2⟩
 |x::names,l,ls,h1,h2,hlen,hb=>by
  have hlim:lim=1000000:=rfl
  have g1:setL l "turn" (.val (.str x)) "nexts"=some (.val (D.dictS (way.map fun q:Str×Str=>(q.1,D.str q.2)))):=(sN).trans h1
  have g2:setL l "turn" (.val (.str x)) "lines"=some (.val (laysD ls)):=(sN).trans h2
  generalize hl1:setL l "turn" (.val (.str x))=l1 at g1 g2
  have hs:Ssl (ev fns1 glob (n+15)) false lines1.scope l1 (forB (forFirst lines1.body))=some (.next,setL l1 "lines" (.val (laysD (ls.map (nextL way))))):=by
   show Ssl (ev fns1 glob (n+15)) false lines1.scope l1 [.Assign [_] (.ListComp (.IfExp _ _ _ _) _ _ _) _]=_
   refine(Ssl_next (S_assign (d:=laysD (ls.map (nextL way))) ((comp0 strsD (fun q=>strsD (nextL way q)) ls (itL (E_name kR kR (purL_val g2))) kR kR ?_ kO).trans ?_) kR kR)).trans Ssl_nil
   ·intro q hq
    obtain⟨hq1,hq2⟩:=hb q hq
    simp only[List.length_cons] at hq2
    obtain⟨u,hu⟩:∃u,q.getLast? =some u:=by
     cases h:q.getLast? with
     |none=>exact absurd (List.getLast?_eq_none_iff.mp h) hq1
     |some u=>exact⟨u,rfl⟩
    have hlast:∀{sc:Scope} {p1 p2 p3 p4:Pos} {m:Nat} {lp:Loc},isVar (sc.names.lookup ("line":Str))=true→lp "line"=some (strsD q)→(ev fns1 glob (m+2)).E false sc lp (.Subscript (.Name "line" p1) (.UnaryOp .USub (.Constant (.int 1) 0 p2) p3) p4)=some (.str u):=by
     intro sc p1 p2 p3 p4 m lp hv hl
     refine E_item (by rfl) (x:=strsD q) (y:= .int (-1)) (E_name kR hv hl) kR ?_
     show (if (q.map D.str).length≤lim then (idx? (-1) (q.map D.str).length).bind ((q.map D.str)[·]?) else none)=_
     have hpos:0<q.length:=List.length_pos_iff.mpr hq1
     rw[if_pos (by simp;omega),List.length_map]
     unfold idx?
     rw[if_neg kO,if_pos kO]
     show (q.map D.str)[(-1+(q.length:Int)).toNat]? =_
     rw[show (-1+(q.length:Int)).toNat=q.length - 1 by omega,List.getElem?_map,←List.getLast?_eq_getElem?,hu]
     rfl
    have hn:setL (compLoc (match forB (forFirst lines1.body) with|[.Assign _ (.ListComp _ _ csc _) _]=>csc|_=>lines1.scope) (purL l1)) "line" (strsD q) "nexts"=some (D.dictS (way.map fun q:Str×Str=>(q.1,D.str q.2))):=(purL_val g1:purL l1 "nexts"=_)
    have hin:inD (.str u) (D.dictS (way.map fun q:Str×Str=>(q.1,D.str q.2)))=some (way.lookup u).isSome:=by
     show some ((way.map fun q=>(q.1,D.str q.2)).lookup u).isSome=_
     rw[lookup_map2];simp
    refine E_ifexp (c:=(way.lookup u).isSome) ?_ ?_
    ·exact Bt_cmp kR (x:= .str u) (y:=D.dictS (way.map fun q:Str×Str=>(q.1,D.str q.2))) (hlast kR kR) (E_name kR kR hn) hin
    ·cases hw:way.lookup u with
     |none=>
      have:nextL way q=q:=by unfold nextL;rw[hu];dsimp only;rw[hw]
      rw[this]
      exact E_name kR kR kR
     |some y=>
      have:nextL way q=q++[y]:=by unfold nextL;rw[hu];dsimp only;rw[hw]
      rw[this]
      show (ev fns1 glob (n+12)).E false _ _ (.BinOp _ .Add (.List [_] _) _)=_
      refine E_bin (x:=strsD q) (y:=strsD [y]) (E_name kR kR kR) (E_list1 kR (E_item kR (x:=D.dictS (way.map fun q:Str×Str=>(q.1,D.str q.2))) (y:= .str u) (E_name kR kR hn) (hlast kR kR) ?_)) ?_
      ·show (way.map fun q=>(q.1,D.str q.2)).lookup u=_
       rw[lookup_map2,hw];rfl
      ·exact(add_lists (by rw[List.length_map];show _+1≤_;omega)).trans (by simp[strsD])
   ·unfold laysD
    rw[List.map_map];rfl
  have hb':∀y∈ls.map (nextL way),y≠[]∧y.length+names.length≤1000:=by
   intro y hy
   obtain⟨z,hz,rfl⟩:=zmap.mp hy
   obtain⟨h3,h4⟩:=hb z hz
   have:=nextL_len way z
   simp only[List.length_cons] at h4
   exact⟨this.2 h3,by omega⟩
  obtain⟨l',e',h'⟩:=lines_loop (glob:=glob) (n:=n) (way:=way) names (setL l1 "lines" (.val (laysD (ls.map (nextL way))))) (ls.map (nextL way)) ((sN).trans g1) setL_eq (by simpa using hlen) hb'
  exact⟨l',(forL_next (by rw[←hl1];rfl) hs).trans e',h'⟩
theorem lines_val{glob:List (Str×D)}{n:Nat}(names:List Str)(way:List (Str×Str))(hn:(way.map (·.1)).Nodup)(h1:names.length≤100)(h2:way.length≤1000):
  (callD fns1 (ev fns1 glob (n+20)) "_law_lines" [strsD names,rowsD way]).bind retOf=some (laysD (linesP names way)):=by
 have hlim:lim=1000000:=rfl
 show (Ssl (ev fns1 glob (n+20)) false lines1.scope (setL (setL (fun _=>none) "way" (.val (rowsD way))) "names" (.val (strsD names))) lines1.body).bind retOf=_
 show (Ssl (ev fns1 glob (n+20)) false lines1.scope _ [_,_,.For _ (.Name _ _) _ [] _,_]).bind retOf=_
 refine R_next (S_assign (d:=D.dictS (way.map fun q:Str×Str=>(q.1,D.str q.2))) (dcomp rowD (fun _=>true) (fun q=>q.1) (fun q=> .str q.2) way kR kR kR (fun q hq=>by kernel_rfl) (fun q hq _=>by kernel_rfl) (fun q hq _=>by kernel_rfl) kO ?_) kR kR) ?_
 ·rw[List.filter_eq_self.mpr fun _ _=>rfl]
  rw[dictS_new (fun q:Str×Str=>q.1) (fun q=> .str q.2) way [] hn (fun _ _=>rfl)]
  rfl
 refine R_next (S_assign (d:=laysD (lines0 names way)) ((comp1 .str (fun x=> !decide (x∈way.map (·.2))) (fun x=>strsD [x]) names kR kR kR ?_ (fun q hq _=>by kernel_rfl) kO).trans ?_) kR kR) ?_
 ·intro q hq
  refine T_one (Bt_cmp kR (x:= .str q) (y:= .list ((way.map (·.2)).map .str)) kR ?_ (Faith.str.notIn kO _ _))
  refine(comp0 rowD (fun q=> .str q.2) way kR kR kR (fun q hq=>by kernel_rfl) kO).trans ?_
  rw[List.map_map];rfl
 ·unfold laysD lines0
  rw[List.map_map];rfl
 have hb:∀x∈lines0 names way,x≠[]∧x.length+names.length≤1000:=by
  intro x hx
  obtain⟨y,_,rfl⟩:=zmap.mp hx
  exact⟨by simp,by simp;omega⟩
 have hl0:(lines0 names way).length≤1000:=by
  unfold lines0
  rw[List.length_map]
  exact znT (List.length_filter_le _ _) kO
 obtain⟨l',e',h'⟩:=lines_loop (glob:=glob) (n:=n+4) (way:=way) names (setL (setL (setL (setL (fun _=>none) "way" (.val (rowsD way))) "names" (.val (strsD names))) "nexts" (.val (D.dictS (way.map fun q:Str×Str=>(q.1,D.str q.2))))) "lines" (.val (laysD (lines0 names way)))) (lines0 names way) kR kR hl0 hb
 exact R_next (S_forN (its:=names.map .str) kR kR e') (R_ret (S_ret (E_name kR kR (allL_val h'))))
def bitZ(x:Int)(k:Nat):Bool:=decide (x / 2 ^ k % 2=1)
section
variable{fns:List (Str×Fn)}{glob:List (Str×D)}{k:Bool}{sc csc:Scope}{l:Loc}{a b:Expr}{n m:Nat}{p1 p2 p3 p4 p5 p6 p7 p8:Pos}
theorem pow2_val{i:Nat}(h:i≤29):binD .Pow (.int 2) (.int (i:Int))=some (.int (2 ^ i)):=by
 show (if ((2:Int)=2∨(2:Int)=8)∧0≤(i:Int)∧(i:Int)≤64 then some (D.int (2 ^ (i:Int).toNat)) else none)=_
 rw[if_pos ⟨.inl rfl,by omega,by omega⟩]
 rfl
theorem pow2_lt{i:Nat}(h:i≤29):((2:Int) ^ i)≠0∧((2:Int) ^ i).natAbs<1073741824∧0≤(2:Int) ^ i:=by
 have h1:((2:Int) ^ i)=((2 ^ i:Nat):Int):=by simp
 have h2:2 ^ i≤2 ^ 29:=Nat.pow_le_pow_right kO h
 have h3:0<2 ^ i:=Nat.pow_pos kO
 rw[h1]
 generalize 2 ^ i=z at h2 h3
 have:(2:Nat) ^ 29=536870912:=by decide
 omega
theorem fdiv_val{x:Int}{i:Nat}(h:i≤29):binD .FloorDiv (.int x) (.int (2 ^ i))=some (.int (x / 2 ^ i)):=by
 obtain⟨h1,h2,h3⟩:=pow2_lt h
 show (if (2:Int) ^ i≠0∧((2:Int) ^ i).natAbs<1073741824 then some (D.int (x.fdiv (2 ^ i))) else none)=_
 rw[if_pos ⟨h1,h2⟩,Int.fdiv_eq_ediv_of_nonneg _ h3]
theorem mod_val{x y:Int}(h:0<y):binD .Mod (.int x) (.int y)=some (.int (x % y)):=by
 show (if y≠0 then some (D.int (x.fmod y)) else none)=_
 rw[if_pos kO,Int.fmod_eq_emod_of_nonneg _ kO]
theorem div_val{x y:Int}(h:0<y)(h2:y<1000000):binD .FloorDiv (.int x) (.int y)=some (.int (x / y)):=by
 show (if y≠0∧y.natAbs<1073741824 then some (D.int (x.fdiv y)) else none)=_
 rw[if_pos ⟨by omega,by omega⟩,Int.fdiv_eq_ediv_of_nonneg _ kO]
theorem T_bit{x:Int}{i:Nat}(ha:(ev fns glob (n+2)).E k sc l a=some (.int x))(hb:(ev fns glob (n+1)).E k sc l b=some (.int (i:Int)))(h:i≤29):
  Bt (ev fns glob (n+4)) k sc l (m+1) (.Compare (.BinOp (.BinOp a .FloorDiv (.BinOp (.Constant (.int 2) 0 p1) .Pow b p2) p3) .Mod (.Constant (.int 2) 0 p4) p5) [.Eq] [.Constant (.int 1) 0 p6] p7)=some (bitZ x i):=by
 refine Bt_cmp (by rfl) (x:= .int (x / 2 ^ i % 2)) (y:= .int 1) (E_bin (x:= .int (x / 2 ^ i)) (y:= .int 2) (E_bin ha (E_bin (x:= .int 2) (by rfl) hb (pow2_val h)) (fdiv_val h)) (by rfl) (mod_val kO)) (by rfl) ?_
 exact Faith.int.eq kO _ _
end
def pairD(q:Nat×Nat):D:= .tup [.int (q.1:Int),.int (q.2:Int)]
def pairsD(p:List (Nat×Nat)):D:= .list (p.map pairD)
def insideP(c:Nat):List Nat:=(List.range 5).filter fun k=>bitZ (c:Int) k
def heldP(P:List (Nat×Nat))(c:Nat):Nat:=(P.filter fun q=>decide (q.1∈insideP c)&&decide (q.2∈insideP c)).length
def greatStep(P:List (Nat×Nat))(q:Nat×Nat)(c:Nat):Nat×Nat:=
 (if heldP P c=0 then max q.1 (insideP c).length else q.1,if 2 * heldP P c=(insideP c).length * ((insideP c).length - 1) then max q.2 (insideP c).length else q.2)
def greatP(P:List (Nat×Nat)):Nat×Nat:=(List.range 32).foldl (greatStep P) (0,0)
def greatest1:Fn:=fnAt Challenge.pw_oy0159_01 "_law_greatest"
theorem natFaith:Faith (fun k:Nat=>D.int (k:Int)) 0 where
 like:=fun a b=>by simp[D.like]
 beq:=fun a b=>by
  show ((a:Int)==(b:Int))=decide (a=b)
  rw[Bool.eq_iff_iff,beq_iff_eq,decide_eq_true_eq]
  omega
 dep:=fun a=>by simp[D.dep]
theorem inside_len(c:Nat):(insideP c).length≤5:=znT (List.length_filter_le _ _) (by simp)
theorem max_val{a b:Nat}:builtinD "max" [.int (a:Int),.int (b:Int)]=some (.int ((max a b:Nat):Int)):=by
 show some (D.int (if (b:Int) > (a:Int) then (b:Int) else (a:Int)))=_
 congr 2
 omega
theorem builtin2{fns:List (Str×Fn)}{glob:List (Str×D)}{k:Bool}{sc:Scope}{lp:Loc}{a b:Expr}{x y d:D}{p:Pos}{n:Nat}{g:Str}{pg:Pos}(hk:sc.names.lookup g=some .globalImplicit)(h0:(g==("__debug__":Str))=false)(h1:g≠"reduce")(h2:g≠"isinstance")(h3:(fns.lookup g).isSome=false)(hs:PySem.W.isStarred a=false)(hs':PySem.W.isStarred b=false)(ha:(ev fns glob n).E k sc lp a=some x)(hb':(ev fns glob n).E k sc lp b=some y)(hb:builtinD g [x,y]=some d):
  (ev fns glob (n+1)).E k sc lp (.Call (.Name g pg) [a,b] [] p)=some d:=by
 show stepE fns glob (ev fns glob n) k sc lp (.Call (.Name g pg) [a,b] [] p)=_
 unfold stepE;dsimp only
 rw[if_neg (by rw[hk,h0];simp),if_neg h1,if_neg h2,h3]
 show (Ess (ev fns glob n) k sc lp [a,b]).bind (fun as=>builtinD g as)=_
 unfold Ess Ess
 rw[hs,hs']
 show (((ev fns glob n).E k sc lp a).bind fun d=>(((ev fns glob n).E k sc lp b).bind fun d=>(Ess (ev fns glob n) k sc lp []).bind fun ds=>some (d::ds)).bind fun ds=>some (d::ds)).bind (fun as=>builtinD g as)=_
 rw[ha,hb']
 exact hb
def stAt(b:List Stmt)(i:Nat):Stmt:=b.getD i (.Pass ⟨0,0,0,0⟩)
theorem len_val{fns:List (Str×Fn)}{glob:List (Str×D)}{k:Bool}{sc:Scope}{lp:Loc}{a:Expr}{ds:List D}{p pg:Pos}{n:Nat}(hk:sc.names.lookup ("len":Str)=some .globalImplicit)(h3:(fns.lookup ("len":Str)).isSome=false)(hs:PySem.W.isStarred a=false)(ha:(ev fns glob n).E k sc lp a=some (.list ds))(hl:ds.length≤lim):
  (ev fns glob (n+1)).E k sc lp (.Call (.Name "len" pg) [a] [] p)=some (.int (ds.length:Int)):=
 E_builtin1 hk kD kD kD h3 hs ha (len_list hl)
theorem great_step{glob:List (Str×D)}{n:Nat}{P:List (Nat×Nat)}(hP:P.length≤1000){l:LocB}{q:Nat×Nat}{c:Nat}(h1:l "pairs"=some (.val (pairsD P)))(h2:l "found"=some (.val (.list [.int (q.1:Int),.int (q.2:Int)])))(h3:l "chosen"=some (.val (.int (c:Int)))):
  ∃l',Ssl (ev fns1 glob (n+15)) false greatest1.scope l (forB (stAt greatest1.body 1))=some (.next,l')∧l' "pairs"=some (.val (pairsD P))∧l' "found"=some (.val (.list [.int ((greatStep P q c).1:Int),.int ((greatStep P q c).2:Int)])):=by
 have hlim:lim=1000000:=rfl
 have hin:=inside_len c
 show∃l',Ssl (ev fns1 glob (n+15)) false greatest1.scope l [.Assign [_] (.ListComp _ _ _ _) _,.Assign [_] (.Call (.Name _ _) [.ListComp _ _ _ _] [] _) _,.Assign [_] (.List [.IfExp _ _ _ _,.IfExp _ _ _ _] _) _]=some (.next,l')∧_
 let l1:=setL l "inside" (.val (.list ((insideP c).map fun k:Nat=> .int (k:Int))))
 let l2:=setL l1 "held" (.val (.int (heldP P c:Int)))
 let l3:=setL l2 "found" (.val (.list [.int ((greatStep P q c).1:Int),.int ((greatStep P q c).2:Int)]))
 have e1:(ev fns1 glob (n+15)).S false greatest1.scope l (stAt (forB (stAt greatest1.body 1)) 0)=some (.next,l1):=by
  refine S_assign (comp1 (fun k:Nat=> .int (k:Int)) (fun k=>bitZ (c:Int) k) (fun k=> .int (k:Int)) (List.range 5) kR kR kR ?_ (fun k hk _=>by kernel_rfl) (by simp;omega)) kR kR
  intro k hk
  have hk:=zran.mp hk
  exact T_one (T_bit (E_name kR kR (purL_val h3:purL l "chosen"=_)) kR kO)
 have hi:l1 "inside"=some (.val (.list ((insideP c).map fun k:Nat=> .int (k:Int)))):=setL_eq
 have hp1:l1 "pairs"=some (.val (pairsD P)):=(sN).trans h1
 have hf1:l1 "found"=some (.val (.list [.int (q.1:Int),.int (q.2:Int)])):=(sN).trans h2
 generalize hg1:l1=m1 at e1 hi hp1 hf1
 have hg2:l2=setL m1 "held" (.val (.int (heldP P c:Int))):=by rw[←hg1]
 have e2:(ev fns1 glob (n+15)).S false greatest1.scope m1 (stAt (forB (stAt greatest1.body 1)) 1)=some (.next,l2):=by
  rw[hg2]
  refine S_assign (len_val (ds:=(P.filter fun q=>decide (q.1∈insideP c)&&decide (q.2∈insideP c)).map fun q=> .int (q.1:Int)) kR kR kR ?_ ?_ |>.trans ?_) kR kR
  ·refine comp1p (fun q:Nat×Nat=>(.int (q.1:Int),.int (q.2:Int))) (fun q=>decide (q.1∈insideP c)&&decide (q.2∈insideP c)) (fun q=> .int (q.1:Int)) P (itL (E_name kR kR (purL_val hp1))) kR kR kR ?_ (fun k hk _=>by kernel_rfl) kO
   intro p hp
   refine T_one (Bt_and ?_ ?_)
   ·exact Bt_cmp kR (x:= .int (p.1:Int)) (y:= .list ((insideP c).map fun k:Nat=> .int (k:Int))) kR (E_name kR kR (purL_val hi:purL m1 "inside"=_)) (natFaith.isIn kO _ _)
   ·exact Bt_cmp kR (x:= .int (p.2:Int)) (y:= .list ((insideP c).map fun k:Nat=> .int (k:Int))) kR (E_name kR kR (purL_val hi:purL m1 "inside"=_)) (natFaith.isIn kO _ _)
  ·rw[List.length_map]
   exact znT (List.length_filter_le _ _) kO
  ·rw[List.length_map];rfl
 have hh:l2 "held"=some (.val (.int (heldP P c:Int))):=setL_eq
 have hi2:l2 "inside"=some (.val (.list ((insideP c).map fun k:Nat=> .int (k:Int)))):=by rw[hg2];exact(sN).trans hi
 have hp2:l2 "pairs"=some (.val (pairsD P)):=by rw[hg2];exact(sN).trans hp1
 have hf2:l2 "found"=some (.val (.list [.int (q.1:Int),.int (q.2:Int)])):=by rw[hg2];exact(sN).trans hf1
 have hg3:l3=setL l2 "found" (.val (.list [.int ((greatStep P q c).1:Int),.int ((greatStep P q c).2:Int)])):=rfl
 clear_value l3
 generalize l2=m2 at e2 hh hi2 hp2 hf2 hg3
 have hlen:∀{p pg p2:Pos} {j:Nat},(ev fns1 glob (j+2)).E false greatest1.scope (purL m2) (.Call (.Name "len" pg) [.Name "inside" p2] [] p)=some (.int ((insideP c).length:Int)):=by
  intro p pg p2 j
  refine(len_val kR kR kR (E_name kR kR (purL_val hi2)) (by rw[List.length_map];omega)).trans ?_
  rw[List.length_map]
 have hfound:∀{p p2 p3:Pos} {j:Nat},(ev fns1 glob (j+2)).E false greatest1.scope (purL m2) (.Subscript (.Name "found" p) (.Constant (.int 0) 0 p2) p3)=some (.int (q.1:Int)):=by
  intro p p2 p3 j
  exact E_item (by rfl) (x:= .list [.int (q.1:Int),.int (q.2:Int)]) (y:= .int 0) (E_name kR kR (purL_val hf2)) kR kR
 have hfound1:∀{p p2 p3:Pos} {j:Nat},(ev fns1 glob (j+2)).E false greatest1.scope (purL m2) (.Subscript (.Name "found" p) (.Constant (.int 1) 0 p2) p3)=some (.int (q.2:Int)):=by
  intro p p2 p3 j
  exact E_item (by rfl) (x:= .list [.int (q.1:Int),.int (q.2:Int)]) (y:= .int 1) (E_name kR kR (purL_val hf2)) kR kR
 have hheld:∀{p:Pos} {j:Nat},(ev fns1 glob (j+1)).E false greatest1.scope (purL m2) (.Name "held" p)=some (.int (heldP P c:Int)):=by
  intro p j
  exact E_name kR kR (purL_val hh)
 have e3:(ev fns1 glob (n+15)).S false greatest1.scope m2 (stAt (forB (stAt greatest1.body 1)) 2)=some (.next,l3):=by
  rw[hg3]
  refine S_assign (E_list2 (x:= .int ((greatStep P q c).1:Int)) (y:= .int ((greatStep P q c).2:Int)) kR kR ?_ ?_) kR kR
  ·refine E_ifexp (c:=decide ((heldP P c:Int)=0)) (Bt_cmp kR (x:= .int (heldP P c:Int)) (y:= .int 0) hheld kR (Faith.int.eq kO _ _)) ?_
   unfold greatStep
   by_cases e:heldP P c=0
   ·rw[if_pos e,decide_eq_true kO]
    exact builtin2 kR kR kD kD kR kR kR hfound hlen max_val
   ·rw[if_neg e,decide_eq_false kO]
    exact hfound
  ·have hcast:(((insideP c).length:Int) * (((insideP c).length:Int) - 1))=(((insideP c).length * ((insideP c).length - 1):Nat):Int):=by
    generalize (insideP c).length=z at hin
    match z with
    |0=>rfl
    |z+1=>simp
   refine E_ifexp (c:=decide (2 * (heldP P c:Int)=(((insideP c).length * ((insideP c).length - 1):Nat):Int))) (Bt_cmp kR (x:= .int (2 * (heldP P c:Int))) (y:= .int (((insideP c).length * ((insideP c).length - 1):Nat):Int)) (E_bin (x:= .int 2) (y:= .int (heldP P c:Int)) kR hheld kR) (E_bin (x:= .int ((insideP c).length:Int)) (y:= .int (((insideP c).length:Int) - 1)) hlen (E_bin (x:= .int ((insideP c).length:Int)) (y:= .int 1) hlen kR kR) ?_) (Faith.int.eq kO _ _)) ?_
   ·have hs:small ((insideP c).length:Int)=true:=by
     unfold small
     refine decide_eq_true ?_
     have:(5:Nat)<2 ^ 60:=by decide
     omega
    show (if (small ((insideP c).length:Int)||small (((insideP c).length:Int) - 1))=true then some (D.int (((insideP c).length:Int) * (((insideP c).length:Int) - 1))) else none)=_
    rw[hs,hcast];rfl
   ·unfold greatStep
    by_cases e:2 * heldP P c=(insideP c).length * ((insideP c).length - 1)
    ·rw[if_pos e,decide_eq_true (by rw[←e];simp)]
     exact builtin2 kR kR kD kD kR kR kR hfound1 hlen max_val
    ·rw[if_neg e,decide_eq_false (fun h=>e kO)]
     exact hfound1
 refine⟨l3,(Ssl_next e1).trans ((Ssl_next e2).trans ((Ssl_next e3).trans Ssl_nil)),?_,?_⟩
 ·rw[hg3];exact(sN).trans hp2
 ·rw[hg3];exact setL_eq
theorem great_loop{glob:List (Str×D)}{n:Nat}{P:List (Nat×Nat)}(hP:P.length≤1000):∀(cs:List Nat) (l:LocB) (q:Nat×Nat),l "pairs"=some (.val (pairsD P))→l "found"=some (.val (.list [.int (q.1:Int),.int (q.2:Int)]))→
  ∃l',forL (ev fns1 glob (n+15)) false greatest1.scope (forT (stAt greatest1.body 1)) (forB (stAt greatest1.body 1)) l (cs.map fun k:Nat=> .int (k:Int))=some (.next,l')∧l' "found"=some (.val (.list [.int ((cs.foldl (greatStep P) q).1:Int),.int ((cs.foldl (greatStep P) q).2:Int)]))
 |[],l,q,_,h2=>⟨l,forL_nil,h2⟩
 |c::cs,l,q,h1,h2=>by
  obtain⟨l2,e2,g1,g2⟩:=great_step (glob:=glob) (n:=n) (q:=q) (c:=c) hP (l:=setL l "chosen" (.val (.int (c:Int)))) ((sN).trans h1) ((sN).trans h2) setL_eq
  obtain⟨l',e',g'⟩:=great_loop (glob:=glob) (n:=n) hP cs l2 (greatStep P q c) g1 g2
  exact⟨l',(forL_next rfl e2).trans e',g'⟩
theorem great_val{glob:List (Str×D)}{n:Nat}(P:List (Nat×Nat))(hP:P.length≤1000):
  (callD fns1 (ev fns1 glob (n+20)) "_law_greatest" [pairsD P]).bind retOf=some (.list [.int ((greatP P).1:Int),.int ((greatP P).2:Int)]):=by
 show (Ssl (ev fns1 glob (n+20)) false greatest1.scope (setL (fun _=>none) "pairs" (.val (pairsD P))) greatest1.body).bind retOf=_
 show (Ssl (ev fns1 glob (n+20)) false greatest1.scope _ [_,.For _ (.Call (.Name _ _) [.Constant _ _ _] [] _) _ [] _,_]).bind retOf=_
 refine R_next (S_assign (d:= .list [.int 0,.int 0]) kR kR kR) ?_
 obtain⟨l',e',h'⟩:=great_loop (glob:=glob) (n:=n+4) hP (List.range 32) (setL (setL (fun _=>none) "pairs" (.val (pairsD P))) "found" (.val (.list [.int 0,.int 0]))) (0,0) kR kR
 exact R_next (S_forN (its:=(List.range 32).map fun k:Nat=> .int (k:Int)) kR kR e') (R_ret (S_ret (E_name kR kR (allL_val h'))))
section
variable{fns:List (Str×Fn)}{glob:List (Str×D)}{k:Bool}{sc csc:Scope}{l:Loc}{a b c:Expr}{n m:Nat}{p pg:Pos}{f:Str}{x y z d:D}
theorem E_call1(hk:sc.names.lookup f=some .globalImplicit)(h0:(f==("__debug__":Str))=false)(h1:f≠"reduce")(h2:f≠"isinstance")(h3:(fns.lookup f).isSome=true)(hs:PySem.W.isStarred a=false)(ha:(ev fns glob n).E k sc l a=some x)(hb:(callD fns (ev fns glob n) f [x]).bind retOf=some d):
  (ev fns glob (n+1)).E k sc l (.Call (.Name f pg) [a] [] p)=some d:=by
 show stepE fns glob (ev fns glob n) k sc l (.Call (.Name f pg) [a] [] p)=_
 unfold stepE;dsimp only
 rw[if_neg (by rw[hk,h0];simp),if_neg h1,if_neg h2,h3]
 show (Ess (ev fns glob n) k sc l [a]).bind (fun as=>(callD fns (ev fns glob n) f as).bind retOf)=_
 unfold Ess
 rw[hs]
 show (((ev fns glob n).E k sc l a).bind fun d=>(Ess (ev fns glob n) k sc l []).bind fun ds=>some (d::ds)).bind (fun as=>(callD fns (ev fns glob n) f as).bind retOf)=_
 rw[ha]
 exact hb
theorem E_call2(hk:sc.names.lookup f=some .globalImplicit)(h0:(f==("__debug__":Str))=false)(h1:f≠"reduce")(h2:f≠"isinstance")(h3:(fns.lookup f).isSome=true)(hs:PySem.W.isStarred a=false)(hs':PySem.W.isStarred b=false)(ha:(ev fns glob n).E k sc l a=some x)(ha':(ev fns glob n).E k sc l b=some y)(hb:(callD fns (ev fns glob n) f [x,y]).bind retOf=some d):
  (ev fns glob (n+1)).E k sc l (.Call (.Name f pg) [a,b] [] p)=some d:=by
 show stepE fns glob (ev fns glob n) k sc l (.Call (.Name f pg) [a,b] [] p)=_
 unfold stepE;dsimp only
 rw[if_neg (by rw[hk,h0];simp),if_neg h1,if_neg h2,h3]
 show (Ess (ev fns glob n) k sc l [a,b]).bind (fun as=>(callD fns (ev fns glob n) f as).bind retOf)=_
 unfold Ess Ess
 rw[hs,hs']
 show (((ev fns glob n).E k sc l a).bind fun d=>(((ev fns glob n).E k sc l b).bind fun d=>(Ess (ev fns glob n) k sc l []).bind fun ds=>some (d::ds)).bind fun ds=>some (d::ds)).bind (fun as=>(callD fns (ev fns glob n) f as).bind retOf)=_
 rw[ha,ha']
 exact hb
theorem E_call3(hk:sc.names.lookup f=some .globalImplicit)(h0:(f==("__debug__":Str))=false)(h1:f≠"reduce")(h2:f≠"isinstance")(h3:(fns.lookup f).isSome=true)(hs:PySem.W.isStarred a=false)(hs':PySem.W.isStarred b=false)(hs'':PySem.W.isStarred c=false)(ha:(ev fns glob n).E k sc l a=some x)(ha':(ev fns glob n).E k sc l b=some y)(ha'':(ev fns glob n).E k sc l c=some z)(hb:(callD fns (ev fns glob n) f [x,y,z]).bind retOf=some d):
  (ev fns glob (n+1)).E k sc l (.Call (.Name f pg) [a,b,c] [] p)=some d:=by
 show stepE fns glob (ev fns glob n) k sc l (.Call (.Name f pg) [a,b,c] [] p)=_
 unfold stepE;dsimp only
 rw[if_neg (by rw[hk,h0];simp),if_neg h1,if_neg h2,h3]
 show (Ess (ev fns glob n) k sc l [a,b,c]).bind (fun as=>(callD fns (ev fns glob n) f as).bind retOf)=_
 unfold Ess Ess Ess
 rw[hs,hs',hs'']
 show (((ev fns glob n).E k sc l a).bind fun d=>(((ev fns glob n).E k sc l b).bind fun d=>(((ev fns glob n).E k sc l c).bind fun d=>(Ess (ev fns glob n) k sc l []).bind fun ds=>some (d::ds)).bind fun ds=>some (d::ds)).bind fun ds=>some (d::ds)).bind (fun as=>(callD fns (ev fns glob n) f as).bind retOf)=_
 rw[ha,ha',ha'']
 exact hb
end
abbrev glob1:List (Str×D):=[("_filemode_table",tabD)]
def fmT(idx:Nat)(m b:Int):Bool:=if idx=0 then decide (Builtin.bitAnd m 61440=b) else decide (Builtin.bitAnd m b=b)
def fmC(idx:Nat)(m:Int)(rows:List (Int×Str)):Str:=match rows.find? (fun q=>fmT idx m q.1) with
 |some q=>q.2
 |none=>if idx=0 then "?" else "-"
def mode1:Fn:=fnAt Challenge.pw_oy0159_01 "filemode"
structure FInv(idx:Nat)(m:Int)(l:LocB)(ps:List Str):Prop where
 perm:l "perm"=some (.own (ps.map .str))
 index:l "index"=some (.val (.int (idx:Int)))
 mode:l "mode"=some (.val (.int m))
theorem FInv.set{idx:Nat}{m:Int}{l:LocB}{ps:List Str}(h:FInv idx m l ps){x:Str}{b:B}(h1:x∈(["bit","char","table"]:List Str)):FInv idx m (setL l x b) ps:=by
 have hne:∀y∈(["perm","index","mode"]:List Str),y≠x:=by
  intro y hy
  simp only[List.mem_cons,List.not_mem_nil,or_false] at h1 hy
  rcases h1 with rfl|rfl|rfl <;> rcases hy with rfl|rfl|rfl <;> decide
 exact⟨(setL_ne (hne _ (by simp))).trans h.perm,(setL_ne (hne _ (by simp))).trans h.index,(setL_ne (hne _ (by simp))).trans h.mode⟩
def inFor:Stmt:=stAt (forB (stAt mode1.body 1)) 0
def entD(q:Int×Str):D:= .tup [.int q.1,.str q.2]
theorem fm_turn{n idx:Nat}{m:Int}{l:LocB}{ps:List Str}{q:Int×Str}(h:FInv idx m l ps)(hb:l "bit"=some (.val (.int q.1)))(hc:l "char"=some (.val (.str q.2)))(hl:ps.length≤1000):
  ∃l',Ssl (ev fns1 glob1 (n+15)) false mode1.scope l (forB inFor)=some (if fmT idx m q.1 then .brk else .next,l')∧FInv idx m l' (if fmT idx m q.1 then ps++[q.2] else ps):=by
 have hlim:lim=1000000:=rfl
 have happ:(ev fns1 glob1 (n+13)).S false mode1.scope l (match stAt (forB inFor) 0 with| .If _ [.If _ [s,_] _ _] _ _=>s|_=> .Pass ⟨0,0,0,0⟩)=some (.next,setL l "perm" (.own (ps.map .str++[.str q.2]))):=
  S_append h.perm (E_name kR kR (purL_val hc)) kR kR kR kR (by simp;omega)
 have happ2:(ev fns1 glob1 (n+13)).S false mode1.scope l (match stAt (forB inFor) 0 with| .If _ _ [.If _ [s,_] _ _] _=>s|_=> .Pass ⟨0,0,0,0⟩)=some (.next,setL l "perm" (.own (ps.map .str++[.str q.2]))):=
  S_append h.perm (E_name kR kR (purL_val hc)) kR kR kR kR (by simp;omega)
 have hin:FInv idx m (setL l "perm" (.own (ps.map .str++[.str q.2]))) (ps++[q.2]):=⟨setL_eq.trans (by simp),(sN).trans h.index,(sN).trans h.mode⟩
 show∃l',Ssl (ev fns1 glob1 (n+15)) false mode1.scope l [.If _ [.If _ [_,.Break _] [] _] [.If _ [_,.Break _] [] _] _]=_∧_
 have h0:Bt (ev fns1 glob1 (n+14)) false mode1.scope (allL l) 4 (match stAt (forB inFor) 0 with| .If t _ _ _=>t|_=> .Constant .none 0 ⟨0,0,0,0⟩)=some (decide ((idx:Int)=0)):=
  Bt_cmp kR (x:= .int (idx:Int)) (y:= .int 0) (E_name kR kR (allL_val h.index)) kR (Faith.int.eq kO _ _)
 by_cases e0:idx=0
 ·have h1:Bt (ev fns1 glob1 (n+13)) false mode1.scope (allL l) 4 (match stAt (forB inFor) 0 with| .If _ [.If t _ _ _] _ _=>t|_=> .Constant .none 0 ⟨0,0,0,0⟩)=some (decide (Builtin.bitAnd m 61440=q.1)):=
   Bt_cmp kR (x:= .int (Builtin.bitAnd m 61440)) (y:= .int q.1) (E_call1 kR kR kD kD kR kR (E_name kR kR (allL_val h.mode)) kR) (E_name kR kR (allL_val hb)) (Faith.int.eq kO _ _)
  have ht:fmT idx m q.1=decide (Builtin.bitAnd m 61440=q.1):=by unfold fmT;rw[if_pos e0]
  rw[ht]
  by_cases e1:Builtin.bitAnd m 61440=q.1
  ·rw[decide_eq_true e1]
   refine⟨_,Ssl_brk ((S_if h0).trans ?_),hin⟩
   rw[decide_eq_true kO]
   refine Ssl_brk ((S_if h1).trans ?_)
   rw[decide_eq_true e1]
   exact(Ssl_next happ).trans (Ssl_brk rfl)
  ·rw[decide_eq_false e1]
   refine⟨l,(Ssl_next ((S_if h0).trans ?_)).trans Ssl_nil,h⟩
   rw[decide_eq_true kO]
   refine(Ssl_next ((S_if h1).trans ?_)).trans Ssl_nil
   rw[decide_eq_false e1]
   exact Ssl_nil
 ·have h1:Bt (ev fns1 glob1 (n+13)) false mode1.scope (allL l) 4 (match stAt (forB inFor) 0 with| .If _ _ [.If t _ _ _] _=>t|_=> .Constant .none 0 ⟨0,0,0,0⟩)=some (decide (Builtin.bitAnd m q.1=q.1)):=
   Bt_cmp kR (x:= .int (Builtin.bitAnd m q.1)) (y:= .int q.1) (E_bin (E_name kR kR (allL_val h.mode)) (E_name kR kR (allL_val hb)) kR) (E_name kR kR (allL_val hb)) (Faith.int.eq kO _ _)
  have ht:fmT idx m q.1=decide (Builtin.bitAnd m q.1=q.1):=by unfold fmT;rw[if_neg e0]
  rw[ht]
  by_cases e1:Builtin.bitAnd m q.1=q.1
  ·rw[decide_eq_true e1]
   refine⟨_,Ssl_brk ((S_if h0).trans ?_),hin⟩
   rw[decide_eq_false kO]
   refine Ssl_brk ((S_if h1).trans ?_)
   rw[decide_eq_true e1]
   exact(Ssl_next happ2).trans (Ssl_brk rfl)
  ·rw[decide_eq_false e1]
   refine⟨l,(Ssl_next ((S_if h0).trans ?_)).trans Ssl_nil,h⟩
   rw[decide_eq_false kO]
   refine(Ssl_next ((S_if h1).trans ?_)).trans Ssl_nil
   rw[decide_eq_false e1]
   exact Ssl_nil
theorem fm_inner{n idx:Nat}{m:Int}:∀(rows:List (Int×Str)) (l:LocB) (ps:List Str),FInv idx m l ps→ps.length≤1000→
  ∃l',forL (ev fns1 glob1 (n+15)) false mode1.scope (forT inFor) (forB inFor) l (rows.map entD)=some (if (rows.find? fun q=>fmT idx m q.1).isSome then .brk else .next,l')∧FInv idx m l' (ps++((rows.find? fun q=>fmT idx m q.1).map (·.2)).toList)
 |[],l,ps,h,_=>⟨l,forL_nil,by simpa using h⟩
 |q::rows,l,ps,h,hl=>by
  obtain⟨l2,e2,h2⟩:=fm_turn (n:=n) (q:=q) (l:=setL (setL l "bit" (.val (.int q.1))) "char" (.val (.str q.2))) ((h.set (by simp)).set (by simp)) ((sN).trans setL_eq) setL_eq hl
  cases ht:fmT idx m q.1 with
  |true=>
   rw[ht] at e2 h2
   refine⟨l2,?_,?_⟩
   ·rw[List.find?_cons_of_pos (by exact ht)]
    exact forL_brk rfl e2
   ·rw[List.find?_cons_of_pos (by exact ht)]
    exact h2
  |false=>
   rw[ht] at e2 h2
   obtain⟨l',e',h'⟩:=fm_inner rows l2 ps h2 hl
   refine⟨l',?_,?_⟩
   ·rw[List.find?_cons_of_neg (by simp[ht])]
    exact(forL_next rfl e2).trans e'
   ·rw[List.find?_cons_of_neg (by simp[ht])]
    exact h'
def outFor1:Stmt:=stAt mode1.body 1
def tabEnt(q:Nat×List (Int×Str)):D:= .tup [.int (q.1:Int),.tup (q.2.map entD)]
theorem fm_outer{n:Nat}{m:Int}:∀(tabs:List (Nat×List (Int×Str))) (l:LocB) (ps:List Str),l "perm"=some (.own (ps.map .str))→l "mode"=some (.val (.int m))→ps.length+tabs.length≤900→
  ∃l',forL (ev fns1 glob1 (n+16)) false mode1.scope (forT outFor1) (forB outFor1) l (tabs.map tabEnt)=some (.next,l')∧l' "perm"=some (.own ((ps++tabs.map fun q=>fmC q.1 m q.2).map .str))
 |[],l,ps,h1,h2,_=>⟨l,forL_nil,by simpa using h1⟩
 |(idx,rows)::tabs,l,ps,h1,h2,hl=>by
  have hlim:lim=1000000:=rfl
  simp only[List.length_cons] at hl
  have h0:FInv idx m (setL (setL l "index" (.val (.int (idx:Int)))) "table" (.val (.tup (rows.map entD)))) ps:=⟨(sN).trans ((sN).trans h1),(sN).trans setL_eq,(sN).trans ((sN).trans h2)⟩
  have ht:setL (setL l "index" (.val (.int (idx:Int)))) "table" (.val (.tup (rows.map entD))) "table"=some (.val (.tup (rows.map entD))):=setL_eq
  generalize hl1:setL (setL l "index" (.val (.int (idx:Int)))) "table" (.val (.tup (rows.map entD)))=l1 at h0 ht
  obtain⟨l2,e2,i2⟩:=fm_inner (n:=n) rows l1 ps h0 kO
  have hits:forIts (ev fns1 glob1 (n+15)) false mode1.scope (purL l1) (match inFor with| .For _ i _ _ _=>i|_=> .Constant .none 0 ⟨0,0,0,0⟩)=some (rows.map entD):=by
   show (((ev fns1 glob1 (n+15)).E false mode1.scope (purL l1) (.Name "table" _)).bind iterD)=_
   rw[E_name kR kR (purL_val ht)];rfl
  have hbody:∃l3,Ssl (ev fns1 glob1 (n+16)) false mode1.scope l1 (forB outFor1)=some (.next,l3)∧FInv idx m l3 (ps++[fmC idx m rows]):=by
   show∃l3,Ssl (ev fns1 glob1 (n+16)) false mode1.scope l1 [.For _ (.Name _ _) _ [.If _ _ _ _] _]=_∧_
   cases hf:rows.find? (fun q=>fmT idx m q.1) with
   |some q=>
    rw[hf] at e2 i2
    have:fmC idx m rows=q.2:=by unfold fmC;rw[hf]
    rw[this]
    exact⟨l2,(Ssl_next (S_forB kR hits e2)).trans Ssl_nil,i2⟩
   |none=>
    rw[hf] at e2 i2
    have i2:FInv idx m l2 ps:=by simpa using i2
    have hc:fmC idx m rows=if idx=0 then ("?":Str) else ("-":Str):=by unfold fmC;rw[hf]
    have h0:Bt (ev fns1 glob1 (n+14)) false mode1.scope (allL l2) 4 (match inFor with| .For _ _ _ [.If t _ _ _] _=>t|_=> .Constant .none 0 ⟨0,0,0,0⟩)=some (decide ((idx:Int)=0)):=
     Bt_cmp kR (x:= .int (idx:Int)) (y:= .int 0) (E_name kR kR (allL_val i2.index)) kR (Faith.int.eq kO _ _)
    by_cases e0:idx=0
    ·have hc:fmC idx m rows="?":=by rw[hc,if_pos e0]
     rw[hc]
     refine⟨setL l2 "perm" (.own (ps.map .str++[.str "?"])),(Ssl_next (S_forE kR hits e2 (.inl rfl) ((Ssl_next ((S_if h0).trans ?_)).trans Ssl_nil))).trans Ssl_nil,⟨setL_eq.trans (by simp),(sN).trans i2.index,(sN).trans i2.mode⟩⟩
     rw[decide_eq_true kO]
     exact(Ssl_next (S_append i2.perm kR kR kR kR kR (by simp;omega))).trans Ssl_nil
    ·have hc:fmC idx m rows="-":=by rw[hc,if_neg e0]
     rw[hc]
     refine⟨setL l2 "perm" (.own (ps.map .str++[.str "-"])),(Ssl_next (S_forE kR hits e2 (.inl rfl) ((Ssl_next ((S_if h0).trans ?_)).trans Ssl_nil))).trans Ssl_nil,⟨setL_eq.trans (by simp),(sN).trans i2.index,(sN).trans i2.mode⟩⟩
     rw[decide_eq_false kO]
     exact(Ssl_next (S_append i2.perm kR kR kR kR kR (by simp;omega))).trans Ssl_nil
  obtain⟨l3,e3,i3⟩:=hbody
  obtain⟨l',e',h'⟩:=fm_outer (n:=n) (m:=m) tabs l3 (ps++[fmC idx m rows]) i3.perm i3.mode (by simp;omega)
  refine⟨l',(forL_next (by rw[←hl1];rfl) e3).trans e',?_⟩
  rw[h'];simp
def tabP:List (Nat×List (Int×Str)):=[(0,[(40960,"l"),(49152,"s"),(32768,"-"),(24576,"b"),(16384,"d"),(8192,"c"),(4096,"p")]),(1,[(256,"r")]),(2,[(128,"w")]),(3,[(2112,"s"),(2048,"S"),(64,"x")]),(4,[(32,"r")]),(5,[(16,"w")]),(6,[(1032,"s"),(1024,"S"),(8,"x")]),(7,[(4,"r")]),(8,[(2,"w")]),(9,[(513,"t"),(512,"T"),(1,"x")])]
def modeP(m:Int):Str:=Txt.join "" (tabP.map fun q=>fmC q.1 m q.2)
theorem fmC_len{idx:Nat}{m:Int}{rows:List (Int×Str)}(h:∀q∈rows,q.2.length≤1000):(fmC idx m rows).length≤1000:=by
 unfold fmC
 split
 ·rename_i q hq
  exact h _ (List.mem_of_find?_eq_some hq)
 ·split <;> decide
section
variable{fns:List (Str×Fn)}{glob:List (Str×D)}{k:Bool}{sc:Scope}{l:Loc}{o a:Expr}{n:Nat}{ap cp:Pos}{x d:D}{y:D}
theorem E_meth{f:Str}(h1:isCallE o=false)(h2:(ap.endLine==cp.line)=true)(h3:f≠"replace")(hs:PySem.W.isStarred a=false)(ho:(ev fns glob n).E k sc l o=some x)(ha:(ev fns glob n).E k sc l a=some y)(hb:methD x f [y]=some d):
  (ev fns glob (n+1)).E k sc l (.Call (.Attribute o f ap) [a] [] cp)=some d:=by
 show stepE fns glob (ev fns glob n) k sc l (.Call (.Attribute o f ap) [a] [] cp)=_
 unfold stepE;dsimp only
 rw[if_neg (by rw[h1,h2];simp),if_neg h3]
 show ((ev fns glob n).E k sc l o).bind (fun d=>(Ess (ev fns glob n) k sc l [a]).bind fun as=>methD d f as)=_
 unfold Ess
 rw[hs,ho]
 show (((ev fns glob n).E k sc l a).bind fun d=>(Ess (ev fns glob n) k sc l []).bind fun ds=>some (d::ds)).bind (fun as=>methD x f as)=_
 rw[ha]
 exact hb
end
theorem tabP_small:∀q∈tabP,∀p∈q.2,p.2.length≤1000:=by decide
theorem mode_val{n:Nat}(m:Int):(callD fns1 (ev fns1 glob1 (n+20)) "filemode" [.int m]).bind retOf=some (.str (modeP m)):=by
 show (Ssl (ev fns1 glob1 (n+20)) false mode1.scope (setL (fun _=>none) "mode" (.val (.int m))) mode1.body).bind retOf=_
 show (Ssl (ev fns1 glob1 (n+20)) false mode1.scope _ [_,.For _ (.Call (.Name _ _) [_] [] _) _ [] _,.Return (some (.Call (.Attribute _ _ _) [_] [] _)) _]).bind retOf=_
 refine R_next (S_assignOwn (ds:=[]) kR kR kR kR) ?_
 obtain⟨l',e',h'⟩:=fm_outer (n:=n+3) (m:=m) tabP (setL (setL (fun _=>none) "mode" (.val (.int m))) "perm" (.own [])) [] kR kR kD
 refine R_next (S_forN (its:=tabP.map tabEnt) kR kR e') (R_ret (S_ret (E_meth (x:= .str "") (y:= .list ((tabP.map fun q=>fmC q.1 m q.2).map .str)) kR kR kD kR kR (E_name kR kR ?_) ?_)))
 ·refine(allL_own h').trans ?_
  simp
 ·show (if (("":Str)).length=0∧((tabP.map fun q=>fmC q.1 m q.2).map D.str).length≤1000 then (strs? ((tabP.map fun q=>fmC q.1 m q.2).map D.str)).bind fun ss=>if (ss.all fun s=>decide (s.length≤1000))=true then some (D.str (Txt.join "" ss)) else none else none)=_
  rw[if_pos ⟨by decide,by simp[tabP]⟩,strs_map]
  show (if ((tabP.map fun q=>fmC q.1 m q.2).all fun s=>decide (s.length≤1000))=true then some (D.str (Txt.join "" (tabP.map fun q=>fmC q.1 m q.2))) else none)=_
  rw[if_pos]
  ·rfl
  ·rw[List.all_eq_true]
   intro s hs
   obtain⟨q,hq,rfl⟩:=zmap.mp hs
   refine decide_eq_true (fmC_len ?_)
   exact tabP_small q hq
def chr(s:Str)(i:Int):Str:=⟨#[s.cps.getD i.toNat 0]⟩
theorem chr_val{s:Str}{i:Int}(h0:0≤i)(h1:i<(s.length:Int))(h2:s.length≤1000):itemD (.str s) (.int i)=some (.str (chr s i)):=by
 have hlim:lim=1000000:=rfl
 show (if s.length≤lim then (idx? i s.length).bind fun k=>(s.cps[k]?).map fun c=>D.str ⟨#[c]⟩ else none)=_
 rw[if_pos kO]
 unfold idx?
 rw[if_pos h0,if_pos h1]
 have hi:i.toNat<s.cps.size:=by
  have:s.length=s.cps.size:=rfl
  omega
 show (s.cps[i.toNat]?).map (fun c=>D.str ⟨#[c]⟩)=_
 unfold chr
 rw[Array.getD_eq_getD_getElem?,Array.getElem?_eq_getElem hi]
 rfl
theorem chr_len(s:Str)(i:Int):(chr s i).length=1:=rfl
theorem add_strs{a b:Str}(h:a.length+b.length≤lim):binD .Add (.str a) (.str b)=some (.str (a++b)):=by
 show (if a.length+b.length≤lim then some (D.str (a++b)) else none)=_
 rw[if_pos h]
theorem StrLen.append(a b:Str):(a++b).length=a.length+b.length:=Str.length_append a b
def dgP(m:Int)(k:Nat):Int:=m / 8 ^ k % 8
def lstep(m:Int)(k:Nat)(sg:Str):Str:=sg++chr "-r" (dgP m k / 4)++chr "-w" (dgP m k / 2 % 2)++chr (if k=0 then "-xTt" else "-xSs") (dgP m k % 2+m / 512 / 2 ^ k % 2 * 2)
def listP(m:Int):Str:=lstep m 0 (lstep m 1 (lstep m 2 (chr "?pc?d?b?-?l?s???" (m / 4096 % 16))))
def list1:Fn:=fnAt Challenge.pw_oy0159_01 "_law_listing"
theorem pow8_val{i:Nat}(h:i≤2):binD .Pow (.int 8) (.int (i:Int))=some (.int (8 ^ i)):=by
 show (if ((8:Int)=2∨(8:Int)=8)∧0≤(i:Int)∧(i:Int)≤64 then some (D.int (8 ^ (i:Int).toNat)) else none)=_
 rw[if_pos ⟨.inr rfl,by omega,by omega⟩]
 rfl
theorem pow8_lt{i:Nat}(h:i≤2):0<(8:Int) ^ i∧(8:Int) ^ i<1000000:=by
 match i,h with
 |0,_=>decide
 |1,_=>decide
 |2,_=>decide
theorem list_turn{glob:List (Str×D)}{n k:Nat}{m:Int}{l:LocB}{sg:Str}(hk:k≤2)(h1:l "signs"=some (.val (.str sg)))(h2:l "mode"=some (.val (.int m)))(h3:l "k"=some (.val (.int (k:Int))))(hl:sg.length≤100):
  ∃l',Ssl (ev fns1 glob (n+15)) false list1.scope l (forB (stAt list1.body 1))=some (.next,l')∧l' "signs"=some (.val (.str (lstep m k sg)))∧l' "mode"=some (.val (.int m)):=by
 have hlim:lim=1000000:=rfl
 obtain⟨p1,p2⟩:=pow8_lt hk
 have hd0:0≤dgP m k∧dgP m k<8:=by unfold dgP;omega
 show∃l',Ssl (ev fns1 glob (n+15)) false list1.scope l [.Assign [_] (.BinOp (.BinOp _ _ (.BinOp _ _ _ _) _) _ _ _) _,.Assign [_] (.BinOp (.BinOp (.BinOp _ .Add (.Subscript _ (.BinOp _ _ _ _) _) _) .Add (.Subscript _ (.BinOp (.BinOp _ _ _ _) _ _ _) _) _) .Add (.Subscript (.IfExp _ _ _ _) (.BinOp (.BinOp _ _ _ _) _ (.BinOp (.BinOp (.BinOp (.BinOp _ _ _ _) _ (.BinOp _ _ _ _) _) _ _ _) _ _ _) _) _) _) _]=_∧_
 have e1:(ev fns1 glob (n+15)).S false list1.scope l (stAt (forB (stAt list1.body 1)) 0)=some (.next,setL l "digit" (.val (.int (dgP m k)))):=by
  refine S_assign (E_bin (x:= .int (m / 8 ^ k)) (y:= .int 8) (E_bin (x:= .int m) (y:= .int (8 ^ k)) (E_name kR kR (purL_val h2)) (E_bin (x:= .int 8) (y:= .int (k:Int)) kR (E_name kR kR (purL_val h3)) (pow8_val hk)) (div_val p1 p2)) kR (mod_val kO)) kR kR
 have g1:setL l "digit" (.val (.int (dgP m k))) "signs"=some (.val (.str sg)):=(sN).trans h1
 have g2:setL l "digit" (.val (.int (dgP m k))) "mode"=some (.val (.int m)):=(sN).trans h2
 have g3:setL l "digit" (.val (.int (dgP m k))) "k"=some (.val (.int (k:Int))):=(sN).trans h3
 have g4:setL l "digit" (.val (.int (dgP m k))) "digit"=some (.val (.int (dgP m k))):=setL_eq
 generalize setL l "digit" (.val (.int (dgP m k)))=l2 at e1 g1 g2 g3 g4
 have hdig:∀{p:Pos} {j:Nat},(ev fns1 glob (j+1)).E false list1.scope (purL l2) (.Name "digit" p)=some (.int (dgP m k)):=fun {p j}=>E_name kR kR (purL_val g4)
 have e2:(ev fns1 glob (n+15)).S false list1.scope l2 (stAt (forB (stAt list1.body 1)) 1)=some (.next,setL l2 "signs" (.val (.str (lstep m k sg)))):=by
  refine S_assign (E_bin (x:= .str (sg++chr "-r" (dgP m k / 4)++chr "-w" (dgP m k / 2 % 2))) (y:= .str (chr (if k=0 then "-xTt" else "-xSs") (dgP m k % 2+m / 512 / 2 ^ k % 2 * 2))) (E_bin (x:= .str (sg++chr "-r" (dgP m k / 4))) (y:= .str (chr "-w" (dgP m k / 2 % 2))) (E_bin (x:= .str sg) (y:= .str (chr "-r" (dgP m k / 4))) (E_name kR kR (purL_val g1)) (E_item kR (x:= .str "-r") (y:= .int (dgP m k / 4)) kR (E_bin hdig kR (div_val kO kO)) (chr_val ?_ ?_ kD)) (add_strs ?_)) (E_item kR (x:= .str "-w") (y:= .int (dgP m k / 2 % 2)) kR (E_bin (E_bin hdig kR (div_val kO kO)) kR (mod_val kO)) (chr_val ?_ ?_ kD)) (add_strs ?_)) (E_item kR (x:= .str (if k=0 then "-xTt" else "-xSs")) (y:= .int (dgP m k % 2+m / 512 / 2 ^ k % 2 * 2)) (E_ifexp (c:=decide ((k:Int)=0)) (Bt_cmp kR (x:= .int (k:Int)) (y:= .int 0) (E_name kR kR (purL_val g3)) kR (Faith.int.eq kO _ _)) ?_) (E_bin (x:= .int (dgP m k % 2)) (y:= .int (m / 512 / 2 ^ k % 2 * 2)) (E_bin hdig kR (mod_val kO)) (E_bin (x:= .int (m / 512 / 2 ^ k % 2)) (y:= .int 2) (E_bin (x:= .int (m / 512 / 2 ^ k)) (y:= .int 2) (E_bin (x:= .int (m / 512)) (y:= .int (2 ^ k)) (E_bin (E_name kR kR (purL_val g2)) kR (div_val kO kO)) (E_bin (x:= .int 2) (y:= .int (k:Int)) kR (E_name kR kR (purL_val g3)) (pow2_val kO)) (fdiv_val kO)) kR (mod_val kO)) kR ?_) kR) (chr_val ?_ ?_ ?_)) (add_strs ?_)) kR kR
  ·omega
  ·rw[show ((("-r":Str).length:Nat):Int)=2 by decide];omega
  ·rw[chr_len];omega
  ·omega
  ·rw[show ((("-w":Str).length:Nat):Int)=2 by decide];omega
  ·rw[StrLen.append,chr_len,chr_len];omega
  ·by_cases e:k=0
   ·rw[if_pos e,decide_eq_true kO];kernel_rfl
   ·rw[if_neg e,decide_eq_false kO];kernel_rfl
  ·show (if (small (m / 512 / 2 ^ k % 2)||small 2)=true then some (D.int (m / 512 / 2 ^ k % 2 * 2)) else none)=_
   rw[show small 2=true by decide,Bool.or_true];rfl
  ·omega
  ·have:(if k=0 then ("-xTt":Str) else "-xSs").length=4:=by split <;> decide
   rw[show ((if k=0 then ("-xTt":Str) else ("-xSs":Str)).length:Int)=4 by rw[this];rfl]
   omega
  ·split <;> decide
  ·rw[StrLen.append,StrLen.append,chr_len,chr_len,chr_len];omega
 exact⟨_,(Ssl_next e1).trans ((Ssl_next e2).trans Ssl_nil),setL_eq,(sN).trans g2⟩
theorem lstepLen(m:Int)(k:Nat)(sg:Str):(lstep m k sg).length=sg.length+3:=by
 unfold lstep
 rw[StrLen.append,StrLen.append,StrLen.append]
 simp only[chr_len]
theorem list_val{glob:List (Str×D)}{n:Nat}(m:Int):(callD fns1 (ev fns1 glob (n+20)) "_law_listing" [.int m]).bind retOf=some (.str (listP m)):=by
 have h0:(chr "?pc?d?b?-?l?s???" (m / 4096 % 16)).length=1:=rfl
 show (Ssl (ev fns1 glob (n+20)) false list1.scope (setL (fun _=>none) "mode" (.val (.int m))) list1.body).bind retOf=_
 show (Ssl (ev fns1 glob (n+20)) false list1.scope _ [.Assign [_] (.Subscript _ (.BinOp (.BinOp _ _ _ _) _ _ _) _) _,.For _ (.Tuple _ _ _) _ [] _,_]).bind retOf=_
 refine R_next (S_assign (d:= .str (chr "?pc?d?b?-?l?s???" (m / 4096 % 16))) (E_item kR (x:= .str "?pc?d?b?-?l?s???") (y:= .int (m / 4096 % 16)) kR (E_bin (E_bin (x:= .int m) kR kR (div_val kO kO)) kR (mod_val kO)) (chr_val kO ?_ kD)) kR kR) ?_
 ·rw[show ((("?pc?d?b?-?l?s???":Str).length:Nat):Int)=16 by decide];omega
 generalize hc:chr "?pc?d?b?-?l?s???" (m / 4096 % 16)=c at h0
 have hl:listP m=lstep m 0 (lstep m 1 (lstep m 2 c)):=by unfold listP;rw[hc]
 rw[hl]
 have hset:∀{l:LocB} {k:Nat} {x:Str} {b:B},x≠"k"→l x=some b→setL l "k" (.val (.int (k:Int))) x=some b:=fun h h'=>(setL_ne h).trans h'
 obtain⟨l1,e1,s1,m1⟩:=list_turn (glob:=glob) (n:=n+4) (k:=2) (m:=m) (sg:=c) (l:=setL (setL (setL (fun _=>none) "mode" (.val (.int m))) "signs" (.val (.str c))) "k" (.val (.int ((2:Nat):Int)))) kO kR kR setL_eq kO
 obtain⟨l2,e2,s2,m2⟩:=list_turn (glob:=glob) (n:=n+4) (k:=1) (m:=m) (sg:=lstep m 2 c) (l:=setL l1 "k" (.val (.int ((1:Nat):Int)))) kO (hset kD s1) (hset kD m1) setL_eq (by rw[lstepLen];omega)
 obtain⟨l3,e3,s3,m3⟩:=list_turn (glob:=glob) (n:=n+4) (k:=0) (m:=m) (sg:=lstep m 1 (lstep m 2 c)) (l:=setL l2 "k" (.val (.int ((0:Nat):Int)))) kO (hset kD s2) (hset kD m2) setL_eq (by rw[lstepLen,lstepLen];omega)
 refine R_next (S_forN (its:=[.int 2,.int 1,.int 0]) kR kR (l':=l3) ?_) (R_ret (S_ret (E_name kR kR (allL_val s3))))
 exact(forL_next rfl e1).trans ((forL_next rfl e2).trans ((forL_next rfl e3).trans forL_nil))
theorem and_split:∀(n y z:Nat),y<2 ^ n→z<2 ^ n→(y&&& z)+(y&&& (2 ^ n - 1 - z))=y
 |0,y,z,hy,hz=>by
  have:y=0:=by simpa using hy
  subst this;simp
 |n+1,y,z,hy,hz=>by
  have hp:2 ^ (n+1)=2 * 2 ^ n:=by rw[Nat.pow_succ];omega
  have h0:0<2 ^ n:=Nat.pow_pos kO
  have ih:=and_split n (y / 2) (z / 2) kO kO
  have e1:=Nat.and_div_two (a:=y) (b:=z)
  have e2:=Nat.and_div_two (a:=y) (b:=2 ^ (n+1) - 1 - z)
  have e3:(2 ^ (n+1) - 1 - z) / 2=2 ^ n - 1 - z / 2:=by omega
  have m1:=Nat.and_mod_two_eq_one (a:=y) (b:=z)
  have m2:=Nat.and_mod_two_eq_one (a:=y) (b:=2 ^ (n+1) - 1 - z)
  rw[e3] at e2
  rw[←e1,←e2] at ih
  generalize y&&& z=p at *
  generalize y&&& (2 ^ (n+1) - 1 - z)=q at *
  omega
theorem and_low(x y n:Nat)(hy:y<2 ^ n):x&&& y=(x % 2 ^ n)&&& y:=by
 refine Nat.eq_of_testBit_eq fun i=> ?_
 rw[Nat.testBit_and,Nat.testBit_and,Nat.testBit_mod_two_pow]
 by_cases h:i<n
 ·simp[h]
 ·have:y.testBit i=false:=Nat.testBit_lt_two_pow (Nat.lt_of_lt_of_le hy (Nat.pow_le_pow_right kO kO))
  simp[this]
theorem bitAnd_low(x:Int)(y n:Nat)(hy:y<2 ^ n):Builtin.bitAnd x (y:Int)=(((x % ((2 ^ n:Nat):Int)).toNat&&& y:Nat):Int):=by
 have h0:0<2 ^ n:=Nat.pow_pos kO
 by_cases hx:0≤x
 ·obtain⟨a,rfl⟩:=Int.eq_ofNat_of_zero_le hx
  have h1:Builtin.bitAnd (a:Int) (y:Int)=((a&&& y:Nat):Int):=by
   unfold Builtin.bitAnd
   rw[decide_eq_true hx,decide_eq_true (show (0:Int)≤(y:Int) by omega)]
   rfl
  rw[h1,and_low a y n hy]
  congr 2
 ·have hz:∃z:Nat,x= -(z:Int) - 1:=⟨(-x - 1).toNat,by omega⟩
  obtain⟨z,rfl⟩:=hz
  have h1:Builtin.bitAnd (-(z:Int) - 1) (y:Int)=(y:Int) - ((y&&& z:Nat):Int):=by
   unfold Builtin.bitAnd
   rw[decide_eq_false hx,decide_eq_true (show (0:Int)≤(y:Int) by omega)]
   show (y:Int) - (((y:Int).toNat&&& (Builtin.bitNot (-(z:Int) - 1)).toNat:Nat):Int)=_
   rw[show (Builtin.bitNot (-(z:Int) - 1)).toNat=z by unfold Builtin.bitNot;omega]
   rfl
  have hm:((-(z:Int) - 1) % ((2 ^ n:Nat):Int)).toNat=2 ^ n - 1 - z % 2 ^ n:=by
   generalize 2 ^ n=p at h0
   have h2:z % p<p:=Nat.mod_lt _ h0
   have h3:(-(z:Int) - 1) % (p:Int)=(p:Int) - 1 - ((z % p:Nat):Int):=by
    have e:=Nat.div_add_mod z p
    have e2:(z:Int)=(p:Int) * ((z / p:Nat):Int)+((z % p:Nat):Int):=by exact_mod_cast e.symm
    have e3: -(z:Int) - 1=((p:Int) - 1 - ((z % p:Nat):Int))+(p:Int) * (-((z / p:Nat):Int) - 1):=by
     rw[Int.mul_sub,Int.mul_neg]
     omega
    rw[e3,Int.add_mul_emod_self_left,Int.emod_eq_of_lt kO kO]
   omega
  have hs:=and_split n y (z % 2 ^ n) hy (Nat.mod_lt _ h0)
  rw[h1,hm,Nat.and_comm y z,and_low z y n hy,Nat.and_comm _ y,Nat.and_comm _ y]
  omega
theorem imode_val(m:Int):Builtin.bitAnd m 4095=m % 4096:=by
 have h:=bitAnd_low m 4095 12 kD
 have e:(m % ((2 ^ 12:Nat):Int)).toNat&&& 4095=(m % ((2 ^ 12:Nat):Int)).toNat:=Nat.and_two_pow_sub_one_of_lt_two_pow (n:=12) (by
  have:(2 ^ 12:Nat)=4096:=by decide
  omega)
 rw[e] at h
 have:((2 ^ 12:Nat):Int)=4096:=by decide
 rw[this] at h
 rw[show ((4095:Nat):Int)=4095 from rfl] at h
 rw[h]
 omega
theorem and_pow(n i:Nat):n&&& 2 ^ i=if n.testBit i then 2 ^ i else 0:=by
 refine Nat.eq_of_testBit_eq fun j=> ?_
 rw[Nat.testBit_and,Nat.testBit_two_pow]
 by_cases e:i=j
 ·subst e
  cases h:n.testBit i <;> simp
 ·cases h:n.testBit i <;> simp[e]
section
variable{m:Int}{u:Nat}(hu:(m % 65536).toNat=u)
include hu
theorem low16(y:Nat)(hy:y<65536):Builtin.bitAnd m (y:Int)=((u&&& y:Nat):Int):=by
 have h:=bitAnd_low m y 16 (by have:(2 ^ 16:Nat)=65536:=by decide
                               omega)
 rw[show ((2 ^ 16:Nat):Int)=65536 by decide,hu] at h
 exact h
theorem one_bit(i:Nat)(hi:i<16):decide (Builtin.bitAnd m ((2 ^ i:Nat):Int)=((2 ^ i:Nat):Int))=u.testBit i:=by
 have h1:2 ^ i<65536:=by
  have:=Nat.pow_lt_pow_right (a:=2) kO hi
  have e:(2 ^ 16:Nat)=65536:=by decide
  omega
 rw[low16 hu _ h1,and_pow]
 have h0:0<2 ^ i:=Nat.pow_pos kO
 generalize 2 ^ i=p at h0
 cases u.testBit i
 ·refine decide_eq_false ?_
  simp;omega
 ·refine decide_eq_true ?_
  simp
theorem two_bit(i j:Nat)(hi:i<16)(hj:j<16)(y:Nat)(hy:y=2 ^ i|||2 ^ j)(hne:¬(2 ^ i=y)∧¬(2 ^ j=y)∧y≠0):decide (Builtin.bitAnd m (y:Int)=(y:Int))=(u.testBit i&&u.testBit j):=by
 have h1:y<2 ^ 16:=by
  rw[hy]
  exact Nat.or_lt_two_pow (Nat.pow_lt_pow_right kO hi) (Nat.pow_lt_pow_right kO hj)
 rw[low16 hu y (by simpa using h1)]
 conv=>lhs;rw[hy]
 rw[Nat.and_or_distrib_left,and_pow,and_pow,←hy]
 cases u.testBit i <;> cases u.testBit j <;> simp only[Bool.false_eq_true,if_false,if_true,Nat.zero_or,Nat.or_zero,Bool.and_true,Bool.and_false,Bool.and_self]
 ·exact decide_eq_false fun h=>hne.2.2 kO
 ·exact decide_eq_false fun h=>hne.2.1 kO
 ·exact decide_eq_false fun h=>hne.1 kO
 ·exact decide_eq_true (by rw[hy])
theorem kind_val:Builtin.bitAnd m 61440=((u / 4096 * 4096:Nat):Int):=by
 have hlt:u<65536:=by omega
 have h:=low16 hu 61440 kO
 have e:u&&& 61440=u / 4096 * 4096:=by
  have h1:=Nat.and_div_two_pow (a:=u) (b:=61440) (n:=12)
  have h2:=Nat.and_mod_two_pow (a:=u) (b:=61440) (n:=12)
  have e1:(61440 / 2 ^ 12:Nat)=2 ^ 4 - 1:=by decide
  have e2:(61440 % 2 ^ 12:Nat)=0:=by decide
  rw[e1,Nat.and_two_pow_sub_one_of_lt_two_pow (by have:(2 ^ 12:Nat)=4096:=by decide
                                                  have:(2 ^ 4:Nat)=16:=by decide
                                                  omega)] at h1
  rw[e2,Nat.and_zero] at h2
  have:(2 ^ 12:Nat)=4096:=by decide
  rw[this] at h1 h2
  omega
 rw[e] at h
 exact h
theorem tb_div(i d:Nat)(hd:d=2 ^ i):u.testBit i=decide (u / d % 2=1):=by
 rw[Nat.testBit_eq_decide_div_mod_eq,hd]
end
def kindTab:List (Int×Str):=[(40960,"l"),(49152,"s"),(32768,"-"),(24576,"b"),(16384,"d"),(8192,"c"),(4096,"p")]
theorem kind_tab:∀t:Fin 16,(match kindTab.find? (fun q=>decide (((t.val * 4096:Nat):Int)=q.1)) with|some q=>q.2|none=>("?":Str))=chr "?pc?d?b?-?l?s???" ((t.val:Nat):Int):=by decide+kernel
theorem kind_c{m:Int}{u:Nat}(hu:(m % 65536).toNat=u):fmC 0 m kindTab=chr "?pc?d?b?-?l?s???" (m / 4096 % 16):=by
 have hlt:u<65536:=by omega
 have h:=kind_tab ⟨u / 4096,by omega⟩
 have e:m / 4096 % 16=((u / 4096:Nat):Int):=by omega
 rw[e,←h]
 unfold fmC fmT
 rw[kind_val hu]
 simp only[if_true]
 first|done|rfl
theorem one_c{m:Int}{u:Nat}(hu:(m % 65536).toNat=u){idx:Nat}(h0:idx≠0)(i:Nat)(hi:i<16)(y:Int)(hy:y=((2 ^ i:Nat):Int))(c:Str):fmC idx m [(y,c)]=if u.testBit i then c else "-":=by
 unfold fmC fmT
 rw[if_neg h0]
 simp only[h0,if_false]
 rw[hy]
 have h:=one_bit hu i hi
 cases hb:u.testBit i <;> rw[hb] at h <;> simp only[List.find?,h] <;> rfl
theorem three_c{m:Int}{u:Nat}(hu:(m % 65536).toNat=u){idx:Nat}(h0:idx≠0)(i j:Nat)(hi:i<16)(hj:j<16)(y1 y2 y3:Int)(h2:y2=((2 ^ i:Nat):Int))(h3:y3=((2 ^ j:Nat):Int))(y:Nat)(hy:y=2 ^ i|||2 ^ j)(h1:y1=(y:Int))(hne:¬(2 ^ i=y)∧¬(2 ^ j=y)∧y≠0)(c1 c2 c3:Str):
  fmC idx m [(y1,c1),(y2,c2),(y3,c3)]=if u.testBit i then (if u.testBit j then c1 else c2) else (if u.testBit j then c3 else "-"):=by
 unfold fmC fmT
 rw[if_neg h0]
 simp only[h0,if_false]
 rw[h1,h2,h3]
 have e1:=two_bit hu i j hi hj y hy hne
 have e2:=one_bit hu i hi
 have e3:=one_bit hu j hj
 cases hb:u.testBit i <;> cases hc:u.testBit j <;> rw[hb] at e1 e2 <;> rw[hc] at e1 e3 <;> simp only[List.find?,e1,e2,e3] <;> rfl
theorem chr_two(a b:Nat)(i:Int)(p:Bool)(h:i=if p then 1 else 0):chr ⟨#[a,b]⟩ i=if p then ⟨#[b]⟩ else ⟨#[a]⟩:=by
 subst h
 cases p <;> rfl
theorem chr_four(a b c d:Nat)(i:Int)(p q:Bool)(h:i=(if p then 2 else 0)+(if q then 1 else 0)):chr ⟨#[a,b,c,d]⟩ i=if p then (if q then ⟨#[d]⟩ else ⟨#[c]⟩) else (if q then ⟨#[b]⟩ else ⟨#[a]⟩):=by
 subst h
 cases p <;> cases q <;> rfl
theorem rS:("-r":Str)=⟨#[45,114]⟩:=by decide+kernel
theorem wS:("-w":Str)=⟨#[45,119]⟩:=by decide+kernel
theorem xS:("-xSs":Str)=⟨#[45,120,83,115]⟩:=by decide+kernel
theorem xT:("-xTt":Str)=⟨#[45,120,84,116]⟩:=by decide+kernel
theorem c1S:("-":Str)=⟨#[45]⟩∧("r":Str)=⟨#[114]⟩∧("w":Str)=⟨#[119]⟩∧("x":Str)=⟨#[120]⟩∧("s":Str)=⟨#[115]⟩∧("S":Str)=⟨#[83]⟩∧("t":Str)=⟨#[116]⟩∧("T":Str)=⟨#[84]⟩:=by decide+kernel
theorem join_empty(x:Str)(xs:List Str)(h:xs≠[]):Str.join "" (x::xs)=x++Str.join "" xs:=by
 cases xs with
 |nil=>exact absurd rfl h
 |cons y ys=>
  show x++("":Str)++Str.join "" (y::ys)=_
  rw[show ("":Str)=Str.empty by decide+kernel,Str.append_empty]
theorem bitIf{p:Prop}[Decidable p]{i:Int}(h0:0≤i∧i≤1)(h:i=1↔p):i=if decide p then 1 else 0:=by
 by_cases hp:p
 ·rw[decide_eq_true hp];exact h.mpr hp
 ·rw[decide_eq_false hp]
  have:¬i=1:=fun e=>hp (h.mp e)
  simp;omega
theorem bitIf2{p q:Prop}[Decidable p][Decidable q]{i j:Int}(h0:0≤i∧i≤1)(h:i=1↔p)(g0:0≤j∧j≤1)(g:j=1↔q):j+i * 2=(if decide p then 2 else 0)+(if decide q then 1 else 0):=by
 have e1:=bitIf h0 h
 have e2:=bitIf g0 g
 cases h1:decide p <;> cases h2:decide q <;> rw[h1] at e1 <;> rw[h2] at e2 <;> simp at e1 e2 <;> rw[e1,e2] <;> rfl
section
variable{m:Int}{u:Nat}(hu:(m % 65536).toNat=u)
include hu
theorem r_c{idx:Nat}(h0:idx≠0)(i:Nat)(hi:i<16)(d:Nat)(hd:d=2 ^ i)(j:Int)(hj:0≤j∧j≤1)(h:j=1↔u / d % 2=1):fmC idx m [((d:Int),"r")]=chr "-r" j:=by
 rw[one_c hu h0 i hi _ (by rw[hd]),rS,chr_two 45 114 j (u.testBit i) (by rw[tb_div hu i d hd];exact bitIf hj h),c1S.1,c1S.2.1]
theorem w_c{idx:Nat}(h0:idx≠0)(i:Nat)(hi:i<16)(d:Nat)(hd:d=2 ^ i)(j:Int)(hj:0≤j∧j≤1)(h:j=1↔u / d % 2=1):fmC idx m [((d:Int),"w")]=chr "-w" j:=by
 rw[one_c hu h0 i hi _ (by rw[hd]),wS,chr_two 45 119 j (u.testBit i) (by rw[tb_div hu i d hd];exact bitIf hj h),c1S.1,c1S.2.2.1]
theorem x_c{idx:Nat}(h0:idx≠0)(i k:Nat)(hi:i<16)(hk:k<16)(d e:Nat)(hd:d=2 ^ i)(he:e=2 ^ k)(y:Nat)(hy:y=2 ^ i|||2 ^ k)(hne:¬(2 ^ i=y)∧¬(2 ^ k=y)∧y≠0)(j j':Int)(hj:0≤j∧j≤1)(h:j=1↔u / d % 2=1)(hj':0≤j'∧j'≤1)(h':j'=1↔u / e % 2=1):
  fmC idx m [((y:Int),"s"),((d:Int),"S"),((e:Int),"x")]=chr "-xSs" (j'+j * 2)∧fmC idx m [((y:Int),"t"),((d:Int),"T"),((e:Int),"x")]=chr "-xTt" (j'+j * 2):=by
 have e0:j'+j * 2=(if u.testBit i then 2 else 0)+(if u.testBit k then 1 else 0):=by
  rw[tb_div hu i d hd,tb_div hu k e he]
  exact bitIf2 hj h hj' h'
 constructor
 ·rw[three_c hu h0 i k hi hk _ _ _ (by rw[hd]) (by rw[he]) y hy rfl hne,xS,chr_four 45 120 83 115 _ (u.testBit i) (u.testBit k) e0,c1S.1,c1S.2.2.2.1,c1S.2.2.2.2.1,c1S.2.2.2.2.2.1]
 ·rw[three_c hu h0 i k hi hk _ _ _ (by rw[hd]) (by rw[he]) y hy rfl hne,xT,chr_four 45 120 84 116 _ (u.testBit i) (u.testBit k) e0,c1S.1,c1S.2.2.2.1,c1S.2.2.2.2.2.2.1,c1S.2.2.2.2.2.2.2]
end
theorem mode_eq_list(m:Int):modeP m=listP m:=by
 generalize hu:(m % 65536).toNat=u
 have hlt:u<65536:=by omega
 have hm:m % 65536=(u:Int):=by omega
 have d2:dgP m 2=m / 64 % 8:=by unfold dgP;rfl
 have d1:dgP m 1=m / 8 % 8:=by unfold dgP;rfl
 have d0:dgP m 0=m % 8:=by unfold dgP;rw[Int.pow_zero,Int.ediv_one]
 have q2:m / 512 / 2 ^ 2 % 2=m / 2048 % 2:=by
  rw[show (2:Int) ^ 2=4 by decide];omega
 have q1:m / 512 / 2 ^ 1 % 2=m / 1024 % 2:=by
  rw[show (2:Int) ^ 1=2 by decide];omega
 have q0:m / 512 / 2 ^ 0 % 2=m / 512 % 2:=by
  rw[Int.pow_zero,Int.ediv_one]
 have r1:=r_c hu (idx:=1) kD 8 kD 256 kD (dgP m 2 / 4) kO kO
 have r2:=w_c hu (idx:=2) kD 7 kD 128 kD (dgP m 2 / 2 % 2) kO kO
 have r3:=(x_c hu (idx:=3) kD 11 6 kD kD 2048 64 kD kD 2112 kD kD (m / 512 / 2 ^ 2 % 2) (dgP m 2 % 2) kO kO kO kO).1
 have r4:=r_c hu (idx:=4) kD 5 kD 32 kD (dgP m 1 / 4) kO kO
 have r5:=w_c hu (idx:=5) kD 4 kD 16 kD (dgP m 1 / 2 % 2) kO kO
 have r6:=(x_c hu (idx:=6) kD 10 3 kD kD 1024 8 kD kD 1032 kD kD (m / 512 / 2 ^ 1 % 2) (dgP m 1 % 2) kO kO kO kO).1
 have r7:=r_c hu (idx:=7) kD 2 kD 4 kD (dgP m 0 / 4) kO kO
 have r8:=w_c hu (idx:=8) kD 1 kD 2 kD (dgP m 0 / 2 % 2) kO kO
 have r9:=(x_c hu (idx:=9) kD 9 0 kD kD 512 1 kD kD 513 kD kD (m / 512 / 2 ^ 0 % 2) (dgP m 0 % 2) kO kO kO kO).2
 have hj:modeP m=fmC 0 m kindTab++(fmC 1 m [(256,"r")]++(fmC 2 m [(128,"w")]++(fmC 3 m [(2112,"s"),(2048,"S"),(64,"x")]++(fmC 4 m [(32,"r")]++(fmC 5 m [(16,"w")]++(fmC 6 m [(1032,"s"),(1024,"S"),(8,"x")]++(fmC 7 m [(4,"r")]++(fmC 8 m [(2,"w")]++fmC 9 m [(513,"t"),(512,"T"),(1,"x")])))))))):=by
  show Builtin.Str.glued "" [fmC 0 m kindTab,fmC 1 m [(256,"r")],fmC 2 m [(128,"w")],fmC 3 m [(2112,"s"),(2048,"S"),(64,"x")],fmC 4 m [(32,"r")],fmC 5 m [(16,"w")],fmC 6 m [(1032,"s"),(1024,"S"),(8,"x")],fmC 7 m [(4,"r")],fmC 8 m [(2,"w")],fmC 9 m [(513,"t"),(512,"T"),(1,"x")]]=_
  generalize fmC 0 m kindTab=a0
  generalize fmC 1 m [(256,"r")]=a1
  generalize fmC 2 m [(128,"w")]=a2
  generalize fmC 3 m [(2112,"s"),(2048,"S"),(64,"x")]=a3
  generalize fmC 4 m [(32,"r")]=a4
  generalize fmC 5 m [(16,"w")]=a5
  generalize fmC 6 m [(1032,"s"),(1024,"S"),(8,"x")]=a6
  generalize fmC 7 m [(4,"r")]=a7
  generalize fmC 8 m [(2,"w")]=a8
  generalize fmC 9 m [(513,"t"),(512,"T"),(1,"x")]=a9
  rw[StrLaws.glued_eq_join,join_empty _ _ (by simp),join_empty _ _ (by simp),join_empty _ _ (by simp),join_empty _ _ (by simp),join_empty _ _ (by simp),join_empty _ _ (by simp),join_empty _ _ (by simp),join_empty _ _ (by simp),join_empty _ _ (by simp)]
  rfl
 rw[hj,kind_c hu]
 have hl:listP m=chr "?pc?d?b?-?l?s???" (m / 4096 % 16)++(chr "-r" (dgP m 2 / 4)++(chr "-w" (dgP m 2 / 2 % 2)++(chr "-xSs" (dgP m 2 % 2+m / 512 / 2 ^ 2 % 2 * 2)++(chr "-r" (dgP m 1 / 4)++(chr "-w" (dgP m 1 / 2 % 2)++(chr "-xSs" (dgP m 1 % 2+m / 512 / 2 ^ 1 % 2 * 2)++(chr "-r" (dgP m 0 / 4)++(chr "-w" (dgP m 0 / 2 % 2)++chr "-xTt" (dgP m 0 % 2+m / 512 / 2 ^ 0 % 2 * 2))))))))):=by
  unfold listP lstep
  rw[if_neg (show¬(2:Nat)=0 by decide),if_neg (show¬(1:Nat)=0 by decide),if_pos rfl]
  simp only[Str.append_assoc]
 rw[hl,←r1,←r2,←r3,←r4,←r5,←r6,←r7,←r8,←r9]
 rfl
def idxs(c:Nat):Nat→List Nat→List Nat
 |_,[]=>[]
 |k,a::l=>if a=c then k::idxs c (k+1) l else idxs c (k+1) l
theorem idxs_append(c:Nat):∀(l1 l2:List Nat) (k:Nat),idxs c k (l1++l2)=idxs c k l1++idxs c (k+l1.length) l2
 |[],l2,k=>by simp[idxs]
 |a::l1,l2,k=>by
  have ih:=idxs_append c l1 l2 (k+1)
  have e:k+1+l1.length=k+(a::l1).length:=by rw[List.length_cons];omega
  rw[e] at ih
  have u:∀l,idxs c k (a::l)=if a=c then k::idxs c (k+1) l else idxs c (k+1) l:=fun l=>rfl
  rw[List.cons_append,u,u,ih]
  split <;> rfl
theorem idxs_none(c:Nat):∀(l:List Nat) (k:Nat),c∉l→idxs c k l=[]
 |[],_,_=>rfl
 |a::l,k,h=>by
  unfold idxs
  rw[if_neg (fun e:a=c=>h (by rw[e];exact zmS)),idxs_none c l (k+1) fun hm=>h (zmC _ hm)]
theorem occ_list(x:Str)(c limit:Nat):∀(l:List Nat) (k free:Nat) (fd:Array Nat),x.cps.toList.drop k=l→free≤k→
  (forIn (List.range' k (x.length+1 - k)) (fd,free) (StrLaws.occBody x ⟨#[c]⟩ x.length limit)).run.fst.toList=fd.toList++(idxs c k l).take (limit - fd.size)
 |[],k,free,fd,hd,hf=>by
  have hk:x.length≤k:=by
   have:=List.drop_eq_nil_iff.mp hd
   simpa [Str.length] using this
  have hn:∀(l:List Nat) (fr:Nat),(∀i∈l,x.length≤i)→(forIn l (fd,fr) (StrLaws.occBody x ⟨#[c]⟩ x.length limit)).run.fst=fd:=by
   intro l
   induction l with
   |nil=>intro fr _;rfl
   |cons i l ih=>
    intro fr h
    rw[List.forIn_cons]
    unfold StrLaws.occBody
    have hi:=h i zmS
    rw[if_neg (fun hh=>by
     have:=hh.1.2
     have e:(⟨#[c]⟩:Str).length=1:=rfl
     rw[e] at this;omega)]
    exact ih fr fun j hj=>h j (zmC _ hj)
  rw[hn _ _ fun i hi=>by have:=List.mem_range'_1.mp hi;omega]
  simp[idxs]
 |a::l,k,free,fd,hd,hf=>by
  have hk:k<x.cps.toList.length:=by
   refine Nat.lt_of_not_le fun h=> ?_
   rw[List.drop_of_length_le h] at hd;cases hd
  have hlen:x.length=x.cps.toList.length:=by simp[Str.length]
  have hget:x.cps.toList[k]? =some a:=by
   have:=congrArg (·[0]?) hd
   simpa using this
  have hd2:x.cps.toList.drop (k+1)=l:=by
   have:=congrArg List.tail hd
   simpa using this
  rw[show x.length+1 - k=(x.length+1 - (k+1))+1 by omega,List.range'_succ,List.forIn_cons]
  have hone:(k+(⟨#[c]⟩:Str).length≤x.length∧Builtin.Str.subAt x ⟨#[c]⟩ k=true)↔a=c:=by
   rw[StrLaws.subAt_one,hget];simp
  unfold idxs
  unfold StrLaws.occBody
  by_cases e:a=c
  ·rw[if_pos e]
   have h1:=hone.mpr e
   by_cases hs:fd.size<limit
   ·rw[if_pos ⟨⟨⟨hs,hf⟩,h1.1⟩,h1.2⟩]
    refine(occ_list x c limit l (k+1) _ (fd.push k) hd2 (by show k+1≤k+1;omega)).trans ?_
    rw[Array.toList_push,Array.size_push,show limit - fd.size=(limit - (fd.size+1))+1 by omega,List.take_succ_cons,List.append_assoc]
    rfl
   ·rw[if_neg (fun hh=>hs hh.1.1.1)]
    refine(occ_list x c limit l (k+1) _ fd hd2 kO).trans ?_
    rw[show limit - fd.size=0 by omega]
    simp
  ·rw[if_neg e]
   rw[if_neg (fun hh=>e (hone.mp ⟨hh.1.2,hh.2⟩))]
   exact occ_list x c limit l (k+1) _ fd hd2 kO
theorem occ_idx(x:Str)(c lo limit:Nat):Builtin.Str.occurrences x ⟨#[c]⟩ lo x.length limit=(idxs c lo (x.cps.toList.drop lo)).take limit:=by
 rw[StrLaws.occ_eq,occ_list x c limit _ lo lo #[] rfl nL]
 simp
def codes:Nat→Nat→List Nat
 |0,n=>[48+n % 10]
 |f+1,n=>if n<10 then [48+n] else codes f (n / 10)++[48+n % 10]
theorem codes_ok:∀(f n:Nat),n<10 ^ (f+1)→NumText.AllDigits (codes f n)∧NumText.digitsVal (codes f n)=n∧(codes f n).length≤f+1∧(codes f n≠[])∧((codes f n).length=1∨∃c r,codes f n=c::r∧49≤c)∧(0<n→∃c r,codes f n=c::r∧49≤c)
 |0,n,h=>by
  have h:n<10:=by simpa using h
  unfold codes
  refine⟨?_,?_,by simp,by simp,.inl rfl,fun h0=>⟨_,_,rfl,by omega⟩⟩
  ·intro c hc;simp at hc;omega
  ·show 0 * 10+(48+n % 10 - 48)=n;omega
 |f+1,n,h=>by
  unfold codes
  by_cases e:n<10
  ·rw[if_pos e]
   refine⟨?_,?_,by simp,by simp,.inl rfl,fun h0=>⟨_,_,rfl,by omega⟩⟩
   ·intro c hc;simp at hc;omega
   ·show 0 * 10+(48+n - 48)=n;omega
  ·rw[if_neg e]
   have hp:10 ^ (f+1+1)=10 * 10 ^ (f+1):=by rw[Nat.pow_succ];omega
   obtain⟨h1,h2,h3,h4,h5,h6⟩:=codes_ok f (n / 10) kO
   obtain⟨c,r,e6,g6⟩:=h6 kO
   refine⟨?_,?_,by simp;omega,by simp,.inr ⟨c,r++[48+n % 10],by rw[e6];rfl,g6⟩,fun _=>⟨c,r++[48+n % 10],by rw[e6];rfl,g6⟩⟩
   ·intro c hc
    rcases zapp.mp hc with hc|hc
    ·exact h1 c hc
    ·simp at hc;omega
   ·rw[NumText.digitsVal_snoc,h2];omega
theorem toDigits_codes(f n:Nat)(h:n<10 ^ (f+1)):Nat.toDigits 10 n=(codes f n).map Char.ofNat:=by
 obtain⟨h1,h2,h3,h4,h5,h6⟩:=codes_ok f n h
 have hl:(codes f n).length=((codes f n).length - 1)+1:=by
  have:=List.length_pos_iff.mpr h4
  omega
 have:=NumText.toDigits_digitsVal ((codes f n).length - 1) (codes f n) hl h1 (h5.imp (fun e=>by omega) id)
 rw[h2] at this
 exact this
theorem toNat_ofNat{cs:List Nat}(h:NumText.AllDigits cs):(cs.map Char.ofNat).map Char.toNat=cs:=by
 rw[List.map_map]
 refine(List.map_congr_left fun c hc=> ?_).trans (List.map_id _)
 have:=h c hc
 have hv:c.isValidChar:= .inl kO
 show (Char.ofNat c).toNat=c
 simp[Char.ofNat,hv,Char.ofNatAux]
def tx(m:Int):Str:=Str.ofString (toString m)
theorem tx_nat(n:Nat)(h:n<10 ^ 10):(tx (n:Int)).cps.toList=codes 9 n:=by
 obtain⟨h1,_⟩:=codes_ok 9 n h
 unfold tx
 rw[Str.ofString_eq_toList]
 show (((toString (n:Int)).toList.map Char.toNat).toArray).toList=_
 rw[List.toList_toArray]
 have:toString (n:Int)=String.ofList (Nat.toDigits 10 n):=rfl
 rw[this,String.toList_ofList,toDigits_codes 9 n h,toNat_ofNat h1]
theorem tx_neg(n:Nat)(h:n+1<10 ^ 10):(tx (Int.negSucc n)).cps.toList=45::codes 9 (n+1):=by
 obtain⟨h1,_⟩:=codes_ok 9 (n+1) h
 unfold tx
 rw[Str.ofString_eq_toList]
 show (((toString (Int.negSucc n)).toList.map Char.toNat).toArray).toList=_
 rw[List.toList_toArray]
 have:toString (Int.negSucc n)="-"++String.ofList (Nat.toDigits 10 (n+1)):=rfl
 rw[this,String.toList_append,List.map_append,toDigits_codes 9 (n+1) h,String.toList_ofList (l:=(codes 9 (n+1)).map Char.ofNat),toNat_ofNat h1]
 rfl
theorem tx_ok{m:Int}(h:m.natAbs<10 ^ 9):(∀c∈(tx m).cps.toList,c=45∨(48≤c∧c≤57))∧(tx m).length≤11∧1≤(tx m).length∧PySem.intText? (tx m)=some m:=by
 have hp:10 ^ 9<10 ^ 10:=by decide
 have hlen:∀x:Str,x.length=x.cps.toList.length:=fun x=>by simp[Str.length]
 cases m with
 |ofNat n=>
  have h:n<10 ^ 9:=h
  have e:=tx_nat n kO
  obtain⟨h1,h2,h3,h4,h5,h6⟩:=codes_ok 9 n kO
  have hpos:=List.length_pos_iff.mpr h4
  have e':(tx (Int.ofNat n)).cps.toList=codes 9 n:=e
  have hl:=hlen (tx (Int.ofNat n))
  rw[e'] at hl
  refine⟨fun c hc=> .inr (h1 c (e'▸hc)),by omega,by omega,?_⟩
  rw[PySem.intText_digits (by rw[e'];exact h1) (by rw[e'];exact h4) kO,e',h2];rfl
 |negSucc n=>
  have h:n+1<10 ^ 9:=h
  have e:=tx_neg n kO
  obtain⟨h1,h2,h3,h4,h5,h6⟩:=codes_ok 9 (n+1) kO
  have hl:=hlen (tx (Int.negSucc n))
  rw[e] at hl
  simp only[List.length_cons] at hl
  refine⟨fun c hc=> ?_,by omega,by omega,?_⟩
  ·rw[e] at hc
   rcases zcon.mp hc with rfl|hc
   ·exact .inl rfl
   ·exact .inr (h1 c hc)
  ·rw[PySem.intText_neg e h1 h4 kO,h2];rfl
def preL:List Nat:=[50,50,57,32,105,116,32,108,105,101,115,32,97,116,32,40]
def sufL:List Nat:=[41,32,40,124,124,124,55,124,41]
theorem preS:("229 it lies at (":Str)=⟨preL.toArray⟩:=by decide+kernel
theorem sufS:(") (|||7|)":Str)=⟨sufL.toArray⟩:=by decide+kernel
def repL(c:Nat)(ds:List Nat):List Nat:=preL++([c,c,c]++(ds++([c]++sufL)))
def repT(c:Nat)(ds:List Nat):Str:=⟨(repL c ds).toArray⟩
structure Mk(c:Nat)(ds:List Nat):Prop where
 c40:c<128
 c41:c≠41
 dg:∀d∈ds,d=45∨(48≤d∧d≤57)
 cd:c∉ds
 len:ds.length≤11
section
variable{c:Nat}{ds:List Nat}(h:Mk c ds)
include h
theorem Mk.n41:41∉ds:=fun hm=>by have:=h.dg _ hm;omega
end
theorem repT_list(c:Nat)(ds:List Nat):(repT c ds).cps.toList=repL c ds:=by unfold repT;simp
theorem repT_len(c:Nat)(ds:List Nat):(repT c ds).length=ds.length+29:=by
 show (repL c ds).toArray.size=_
 unfold repL preL sufL
 simp
theorem rep_find{c:Nat}{ds:List Nat}:Txt.find (repT c ds) "("=15:=by
 unfold Txt.find
 have e:("(":Str)=⟨#[40]⟩:=by decide+kernel
 rw[e,occ_idx,repT_list,List.drop_zero]
 unfold repL
 rw[idxs_append]
 rfl
theorem rep_find2{c:Nat}{ds:List Nat}(h:Mk c ds):Builtin.Str.occurrences (repT c ds) ")" 16 (repT c ds).length 1=[20+ds.length]:=by
 have e:(")":Str)=⟨#[41]⟩:=by decide+kernel
 rw[e,occ_idx,repT_list]
 have e2:(repL c ds).drop 16=[c,c,c]++(ds++([c]++sufL)):=rfl
 have hc:=h.c41
 rw[e2,idxs_append,idxs_none 41 [c,c,c] _ (by simp;omega),idxs_append,idxs_none 41 ds _ h.n41,idxs_append,idxs_none 41 [c] _ (by simp;omega)]
 show (idxs 41 (16+3+ds.length+1) sufL).take 1=_
 rw[show 16+3+ds.length+1=20+ds.length by omega]
 unfold sufL idxs
 rw[if_pos rfl]
 rfl
theorem rep_item1{c:Nat}{ds:List Nat}:(repT c ds).cps[16]? =some c:=by
 rw[←Array.getElem?_toList,repT_list];rfl
theorem rep_item2{c:Nat}{ds:List Nat}:(repT c ds).cps[19+ds.length]? =some c:=by
 rw[←Array.getElem?_toList,repT_list]
 unfold repL
 rw[List.getElem?_append_right (by unfold preL;simp;omega),List.getElem?_append_right (by unfold preL;simp;omega),List.getElem?_append_right (by unfold preL;simp;omega)]
 have:19+ds.length - preL.length - [c,c,c].length - ds.length=0:=by unfold preL;simp;omega
 rw[this];rfl
def midL(c:Nat)(ds:List Nat):List Nat:=[c,c,c]++(ds++[c])
theorem rep_slice{c:Nat}{ds:List Nat}:Txt.slice (repT c ds) (some 16) (some ((20+ds.length:Nat):Int))=⟨(midL c ds).toArray⟩:=by
 have hl:=repT_len c ds
 have h:=slice_closesL (x:=repT c ds) (i:=16) (j:=((20+ds.length:Nat):Int)) kO kO kO
 rw[eq_of_beq h,repT_list]
 congr 2
 rw[show (16:Int).toNat=16 from rfl,show (((20+ds.length:Nat):Int) - 16).toNat=ds.length+4 by omega]
 have e2:(repL c ds).drop 16=[c,c,c]++(ds++([c]++sufL)):=rfl
 rw[e2]
 unfold midL
 have e3:[c,c,c]++(ds++([c]++sufL))=([c,c,c]++(ds++[c]))++sufL:=by simp
 rw[e3,List.take_append_of_le_length (by simp),List.take_of_length_le (by simp)]
theorem rep_pre3{c:Nat}{ds:List Nat}:Txt.slice (repT c ds) none (some 3)="229":=by
 have hl:=repT_len c ds
 have h:=slice_closes_toL (x:=repT c ds) (j:=3) kO kO
 rw[eq_of_beq h,repT_list]
 have:("229":Str)=⟨#[50,50,57]⟩:=by decide+kernel
 rw[this]
 rfl
theorem mid_occ{c:Nat}{ds:List Nat}(h:Mk c ds):Builtin.Str.occurrences ⟨(midL c ds).toArray⟩ ⟨#[c]⟩ 0 (⟨(midL c ds).toArray⟩:Str).length ((⟨(midL c ds).toArray⟩:Str).length+1)=[0,1,2,3+ds.length]:=by
 rw[occ_idx]
 have e:(midL c ds).toArray.toList=[c,c,c]++(ds++[c]):=by simp[midL]
 show (idxs c 0 ((midL c ds).toArray.toList.drop 0)).take _=_
 rw[e,List.drop_zero,idxs_append,idxs_append,idxs_none c ds _ h.cd]
 show ((idxs c 0 [c,c,c])++([]++idxs c (0+3+ds.length) [c])).take _=_
 have e1:idxs c 0 [c,c,c]=[0,1,2]:=by simp[idxs]
 have e2:idxs c (0+3+ds.length) [c]=[3+ds.length]:=by simp[idxs]
 rw[e1,e2]
 refine List.take_of_length_le ?_
 show 4≤(midL c ds).toArray.size+1
 simp[midL]
theorem mid_parts{c:Nat}{ds:List Nat}(h:Mk c ds):Builtin.Str.partsBetween ⟨(midL c ds).toArray⟩ [0,1,2,3+ds.length] 1=[⟨#[]⟩,⟨#[]⟩,⟨#[]⟩,⟨ds.toArray⟩,⟨#[]⟩]:=by
 have hl:(⟨(midL c ds).toArray⟩:Str).length=4+ds.length:=by
  show (midL c ds).toArray.size=_
  simp[midL];omega
 unfold Builtin.Str.partsBetween
 rw[hl]
 show [Builtin.Str.strSub ⟨(midL c ds).toArray⟩ 0 0,Builtin.Str.strSub ⟨(midL c ds).toArray⟩ 1 1,Builtin.Str.strSub ⟨(midL c ds).toArray⟩ 2 2,Builtin.Str.strSub ⟨(midL c ds).toArray⟩ 3 (3+ds.length),Builtin.Str.strSub ⟨(midL c ds).toArray⟩ (3+ds.length+1) (4+ds.length)]=_
 have ext:∀{a:Str} {l:List Nat},a.cps.toList=l→a=⟨l.toArray⟩:=fun {a l} e=>by
  cases a;subst e;simp
 have hsub:∀i j,(Builtin.Str.strSub ⟨(midL c ds).toArray⟩ i j).cps.toList=((midL c ds).drop i).take (j - i):=fun i j=>by
  rw[StrLaws.strSub_toList]
 rw[ext (hsub 0 0),ext (hsub 1 1),ext (hsub 2 2),ext (hsub 3 (3+ds.length)),ext (hsub (3+ds.length+1) (4+ds.length))]
 have e3:((midL c ds).drop 3).take (3+ds.length - 3)=ds:=by
  show (ds++[c]).take _=_
  rw[List.take_append_of_le_length kO,List.take_of_length_le kO]
 have e4:((midL c ds).drop (3+ds.length+1)).take (4+ds.length - (3+ds.length+1))=[]:=by
  rw[show 4+ds.length - (3+ds.length+1)=0 by omega];rfl
 rw[e3,e4]
 simp
theorem mid_kind{c:Nat}{ds:List Nat}(h:Mk c ds):Builtin.Str.strKind ⟨(midL c ds).toArray⟩=1∧Builtin.Str.strKind ⟨#[c]⟩=1:=by
 have hc:=h.c40
 constructor
 ·unfold Builtin.Str.strKind
  rw[if_pos]
  show (midL c ds).toArray.all (fun x=>decide (x<256))=true
  rw[Array.all_eq_true_iff_forall_mem]
  intro x hx
  have hx:x∈midL c ds:=by simpa using hx
  unfold midL at hx
  simp only[List.mem_append,List.mem_cons,List.not_mem_nil,or_false] at hx
  refine decide_eq_true ?_
  rcases hx with hx|hx|hx
  ·omega
  ·have:=h.dg x hx;omega
  ·omega
 ·unfold Builtin.Str.strKind
  rw[if_pos]
  show (#[c]).all (fun x=>decide (x<256))=true
  simp;omega
section
variable{fns:List (Str×Fn)}{glob:List (Str×D)}{k:Bool}{sc csc:Scope}{l:LocB}{lp:Loc}{a b e1 e2:Expr}{n m:Nat}{p p1 p2 pg ap cp:Pos}{x y d z:D}
theorem E_strTo{e:Expr}{s:Str}{i:Int}(h1:(ev fns glob n).E k sc lp a=some (.str s))(h2:(ev fns glob n).E k sc lp e=some (.int i))(h3:s.length≤lim):(ev fns glob (n+1)).E k sc lp (.Subscript a (.Slice none (some e) none p1) p)=some (.str (Txt.slice s none (some i))):=by
 show stepE fns glob (ev fns glob n) k sc lp (.Subscript a (.Slice none (some e) none p1) p)=_
 unfold stepE partD;dsimp only
 rw[h1,h2]
 show (if (none:Option Int)=none∧s.length≤lim then some (D.str (Txt.slice s none (some i))) else none)=_
 rw[if_pos ⟨rfl,h3⟩]
theorem E_strMid{e e':Expr}{s:Str}{i j:Int}(h1:(ev fns glob n).E k sc lp a=some (.str s))(h2:(ev fns glob n).E k sc lp e=some (.int i))(h2':(ev fns glob n).E k sc lp e'=some (.int j))(h3:s.length≤lim):(ev fns glob (n+1)).E k sc lp (.Subscript a (.Slice (some e) (some e') none p1) p)=some (.str (Txt.slice s (some i) (some j))):=by
 show stepE fns glob (ev fns glob n) k sc lp (.Subscript a (.Slice (some e) (some e') none p1) p)=_
 unfold stepE partD;dsimp only
 rw[h1,h2,h2']
 show (if (none:Option Int)=none∧s.length≤lim then some (D.str (Txt.slice s (some i) (some j))) else none)=_
 rw[if_pos ⟨rfl,h3⟩]
theorem S_raise{c:Str}(h1:c="error_reply"∨c="error_proto")(h2:sc.names.lookup c=some .globalImplicit)(h3:PySem.W.isStarred a=false)(h:(ev fns glob n).E k sc (purL l) a=some d):(ev fns glob (n+1)).S k sc l (.Raise (some (.Call (.Name c p1) [a] [] p2)) none p)=some (.exc c d,l):=by
 show stepS (ev fns glob n) k n sc l (.Raise (some (.Call (.Name c p1) [a] [] p2)) none p)=_
 unfold stepS;dsimp only
 rw[if_neg,h]
 ·rfl
 ·rw[h2,h3]
  rintro (⟨g1,g2⟩|h|h)
  ·rcases h1 with e|e
   ·exact g1 e
   ·exact g2 e
  ·exact h rfl
  ·cases h
theorem E_meth2{f:Str}(h1:isCallE a=false)(h2:(ap.endLine==cp.line)=true)(h3:f≠"replace")(hs:PySem.W.isStarred e1=false)(hs':PySem.W.isStarred e2=false)(ho:(ev fns glob n).E k sc lp a=some x)(ha:(ev fns glob n).E k sc lp e1=some y)(ha':(ev fns glob n).E k sc lp e2=some z)(hb:methD x f [y,z]=some d):
  (ev fns glob (n+1)).E k sc lp (.Call (.Attribute a f ap) [e1,e2] [] cp)=some d:=by
 show stepE fns glob (ev fns glob n) k sc lp (.Call (.Attribute a f ap) [e1,e2] [] cp)=_
 unfold stepE;dsimp only
 rw[if_neg (by rw[h1,h2];simp),if_neg h3]
 show ((ev fns glob n).E k sc lp a).bind (fun d=>(Ess (ev fns glob n) k sc lp [e1,e2]).bind fun as=>methD d f as)=_
 unfold Ess Ess
 rw[hs,hs',ho]
 show (((ev fns glob n).E k sc lp e1).bind fun d=>(((ev fns glob n).E k sc lp e2).bind fun d=>(Ess (ev fns glob n) k sc lp []).bind fun ds=>some (d::ds)).bind fun ds=>some (d::ds)).bind (fun as=>methD x f as)=_
 rw[ha,ha']
 exact hb
end
theorem retOf_ex{o:Option (Fl×LocB)}{d:D}(h:o.bind retOf=some d):∃l',o=some (.ret d,l'):=by
 obtain⟨⟨f,l'⟩,h1,h2⟩:=zbs.mp h
 cases f with
 |ret d'=>
  have h2:some d'=some d:=h2
  cases h2
  exact⟨l',h1⟩
 |next=>cases h2
 |brk=>cases h2
 |cont=>cases h2
 |exc c d=>cases h2
def p257:Fn:=fnAt Challenge.pw_oy0159_01 "parse257"
def p229:Fn:=fnAt Challenge.pw_oy0159_01 "parse229"
theorem p257_exc{glob:List (Str×D)}{n:Nat}{x:Str}(h:Txt.slice x none (some 3)≠"257")(hl:x.length≤1000):
  Ssl (ev fns1 glob (n+20)) false p257.scope (setL (fun _=>none) "resp" (B.val (.str x))) p257.body=some (.exc "error_reply" (.str x),setL (fun _=>none) "resp" (B.val (.str x))):=by
 have hlim:lim=1000000:=rfl
 show Ssl (ev fns1 glob (n+20)) false p257.scope _ (.If (.Compare (.Subscript (.Name _ _) _ _) [_] [_] _) [.Raise (some (.Call (.Name _ _) [_] [] _)) none _] [] _::_)=_
 refine Ssl_exc ((S_if (c:=true) ?_).trans (Ssl_exc (S_raise (.inl rfl) kR kR kR)))
 refine(Bt_cmp kR (x:= .str (Txt.slice x none (some 3))) (y:= .str "257") (E_strTo kR kR kO) kR (Faith.str.ne kO _ _)).trans ?_
 rw[decide_eq_false h];rfl
theorem p229_ok{glob:List (Str×D)}{n c:Nat}{m:Int}(h:Mk c (tx m).cps.toList)(hm:m.natAbs<10 ^ 9):∃l',
  Ssl (ev fns1 glob (n+20)) false p229.scope (setL (setL (fun _=>none) "peer" (B.val peerD)) "resp" (B.val (.str (repT c (tx m).cps.toList)))) p229.body=some (.ret (.tup [.str "peer",.int m]),l'):=by
 have hlim:lim=1000000:=rfl
 obtain⟨t1,t2,t3,t4⟩:=tx_ok hm
 have hds:(tx m).cps.toList.length=(tx m).length:=by simp[Str.length]
 have hlen:=repT_len c (tx m).cps.toList
 have htx:tx m=⟨(tx m).cps.toList.toArray⟩:=by simp
 generalize hd:(tx m).cps.toList=ds at h hds hlen htx
 have f1:=rep_find (c:=c) (ds:=ds)
 have f2:=rep_find2 h
 have f3:=rep_item1 (c:=c) (ds:=ds)
 have f4:=rep_item2 (c:=c) (ds:=ds)
 have f5:=rep_slice (c:=c) (ds:=ds)
 have f6:=rep_pre3 (c:=c) (ds:=ds)
 generalize hx:repT c ds=x at f1 f2 f3 f4 f5 f6 hlen
 have hl0:setL (setL (fun _=>none) "peer" (B.val peerD)) "resp" (B.val (.str x)) "resp"=some (B.val (.str x)):=setL_eq
 have hp0:setL (setL (fun _=>none) "peer" (B.val peerD)) "resp" (B.val (.str x)) "peer"=some (B.val peerD):=(sN).trans setL_eq
 generalize hl:setL (setL (fun _=>none) "peer" (B.val peerD)) "resp" (B.val (.str x))=l at hl0 hp0
 refine retOf_ex ?_
 show (Ssl (ev fns1 glob (n+20)) false p229.scope l [.If (.Compare (.Subscript (.Name _ _) _ _) [_] [_] _) _ [] _,.Assign [_] _ _,.If _ _ [] _,.Assign [_] _ _,.If _ _ [] _,.If (.Compare (.Subscript _ (.BinOp _ _ _ _) _) [_] [.Subscript _ (.BinOp _ _ _ _) _] _) _ [] _,.Assign [_] (.Call (.Attribute (.Subscript _ _ _) _ _) [.Subscript _ (.BinOp _ _ _ _) _] [] _) _,.If (.Compare (.Call (.Name _ _) [_] [] _) [_] [_] _) _ [] _,.Assign [_] (.Subscript _ _ _) _,.Assign [_] (.Call (.Name _ _) [.Subscript _ _ _] [] _) _,.Return (some (.Tuple _ _ _)) _]).bind retOf=_
 have hresp:∀{l':LocB} {q:Pos} {j:Nat},l' "resp"=some (B.val (.str x))→(ev fns1 glob (j+1)).E false p229.scope (purL l') (.Name "resp" q)=some (.str x):=fun h=>E_name kR kR (purL_val h)
 have hrespA:∀{l':LocB} {q:Pos} {j:Nat},l' "resp"=some (B.val (.str x))→(ev fns1 glob (j+1)).E false p229.scope (allL l') (.Name "resp" q)=some (.str x):=fun h=>E_name kR kR (allL_val h)
 refine R_next ((S_if (c:=false) ((Bt_cmp kR (x:= .str "229") (y:= .str "229") ((E_strTo (hrespA hl0) kR kO).trans (by rw[f6])) kR (Faith.str.ne kO _ _)).trans ?_)).trans Ssl_nil) ?_
 ·simp
 refine R_next (S_assign (d:= .int 15) (E_meth (x:= .str x) (y:= .str "(") kR kR kD kR (hresp hl0) kR ?_) kR kR) ?_
 ·show some (D.int (Txt.find x "("))=_
  rw[f1]
 have hl1:setL l "left" (B.val (.int 15)) "resp"=some (B.val (.str x)):=(sN).trans hl0
 have hp1:setL l "left" (B.val (.int 15)) "peer"=some (B.val peerD):=(sN).trans hp0
 have hf1:setL l "left" (B.val (.int 15)) "left"=some (B.val (.int 15)):=setL_eq
 generalize setL l "left" (B.val (.int 15))=l1 at hl1 hp1 hf1
 have hleft:∀{l':LocB} {q:Pos} {j:Nat},l' "left"=some (B.val (.int 15))→(ev fns1 glob (j+1)).E false p229.scope (purL l') (.Name "left" q)=some (.int 15):=fun h=>E_name kR kR (purL_val h)
 have hleftA:∀{l':LocB} {q:Pos} {j:Nat},l' "left"=some (B.val (.int 15))→(ev fns1 glob (j+1)).E false p229.scope (allL l') (.Name "left" q)=some (.int 15):=fun h=>E_name kR kR (allL_val h)
 refine R_next ((S_if (c:=false) (Bt_cmp kR (x:= .int 15) (y:= .int 0) (hleftA hf1) kR kR)).trans Ssl_nil) ?_
 refine R_next (S_assign (d:= .int ((20+ds.length:Nat):Int)) (E_meth2 (x:= .str x) (y:= .str ")") (z:= .int 16) kR kR kD kR kR (hresp hl1) kR (E_bin (x:= .int 15) (y:= .int 1) (hleft hf1) kR kR) ?_) kR kR) ?_
 ·show some (D.int (match Builtin.Str.occurrences x ")" (fromIndex x.length 16) x.length 1 with|k::_=>(k:Int)|[]=> -1))=_
  rw[show fromIndex x.length 16=16 from rfl,f2]
 have hl2:setL l1 "right" (B.val (.int ((20+ds.length:Nat):Int))) "resp"=some (B.val (.str x)):=(sN).trans hl1
 have hp2:setL l1 "right" (B.val (.int ((20+ds.length:Nat):Int))) "peer"=some (B.val peerD):=(sN).trans hp1
 have hf2:setL l1 "right" (B.val (.int ((20+ds.length:Nat):Int))) "left"=some (B.val (.int 15)):=(sN).trans hf1
 have hr2:setL l1 "right" (B.val (.int ((20+ds.length:Nat):Int))) "right"=some (B.val (.int ((20+ds.length:Nat):Int))):=setL_eq
 generalize setL l1 "right" (B.val (.int ((20+ds.length:Nat):Int)))=l2 at hl2 hp2 hf2 hr2
 refine R_next ((S_if (c:=false) (Bt_cmp kR (x:= .int ((20+ds.length:Nat):Int)) (y:= .int 0) (E_name kR kR (allL_val hr2)) kR ?_)).trans Ssl_nil) ?_
 ·show some (decide (((20+ds.length:Nat):Int)<0))=_
  rw[decide_eq_false kO]
 refine R_next ((S_if (c:=false) ((Bt_cmp kR (x:= .str ⟨#[c]⟩) (y:= .str ⟨#[c]⟩) (E_item kR (x:= .str x) (y:= .int 16) (hrespA hl2) (E_bin (x:= .int 15) (y:= .int 1) (hleftA hf2) kR kR) ?_) (E_item kR (x:= .str x) (y:= .int ((19+ds.length:Nat):Int)) (hrespA hl2) (E_bin (x:= .int ((20+ds.length:Nat):Int)) (y:= .int 1) (E_name kR kR (allL_val hr2)) kR ?_) ?_) (Faith.str.ne kO _ _)).trans ?_)).trans Ssl_nil) ?_
 ·show (if x.length≤lim then (idx? 16 x.length).bind fun k=>(x.cps[k]?).map fun c=>D.str ⟨#[c]⟩ else none)=_
  rw[if_pos kO]
  unfold idx?
  rw[if_pos kO,if_pos kO]
  show (x.cps[16]?).map (fun c=>D.str ⟨#[c]⟩)=_
  rw[f3];rfl
 ·show some (D.int (((20+ds.length:Nat):Int) - 1))=_
  congr 2;omega
 ·show (if x.length≤lim then (idx? ((19+ds.length:Nat):Int) x.length).bind fun k=>(x.cps[k]?).map fun c=>D.str ⟨#[c]⟩ else none)=_
  rw[if_pos kO]
  unfold idx?
  rw[if_pos kO,if_pos kO]
  show (x.cps[19+ds.length]?).map (fun c=>D.str ⟨#[c]⟩)=_
  rw[f4];rfl
 ·simp
 refine R_next (S_assign (d:=strsD [⟨#[]⟩,⟨#[]⟩,⟨#[]⟩,⟨ds.toArray⟩,⟨#[]⟩]) (E_meth (x:= .str ⟨(midL c ds).toArray⟩) (y:= .str ⟨#[c]⟩) kR kR kD kR ((E_strMid (i:=16) (j:=((20+ds.length:Nat):Int)) (hresp hl2) (E_bin (x:= .int 15) (y:= .int 1) (hleft hf2) kR kR) (E_name kR kR (purL_val hr2)) kO).trans (by rw[f5])) (E_item kR (x:= .str x) (y:= .int 16) (hresp hl2) (E_bin (x:= .int 15) (y:= .int 1) (hleft hf2) kR kR) ?_) ?_) kR kR) ?_
 ·show (if x.length≤lim then (idx? 16 x.length).bind fun k=>(x.cps[k]?).map fun c=>D.str ⟨#[c]⟩ else none)=_
  rw[if_pos kO]
  unfold idx?
  rw[if_pos kO,if_pos kO]
  show (x.cps[16]?).map (fun c=>D.str ⟨#[c]⟩)=_
  rw[f3];rfl
 ·have hml:(⟨(midL c ds).toArray⟩:Str).length=4+ds.length:=by
   show (midL c ds).toArray.size=_
   simp[midL];omega
  obtain⟨k1,k2⟩:=mid_kind h
  have ho:=mid_occ h
  have hpq:=mid_parts h
  generalize (⟨(midL c ds).toArray⟩:Str)=y at hml k1 ho hpq
  have hc1:(⟨#[c]⟩:Str).length=1:=rfl
  show (if (⟨#[c]⟩:Str).length=1∧y.length≤1000∧(decide (y.length<(⟨#[c]⟩:Str).length)||decide (Builtin.Str.strKind y<Builtin.Str.strKind ⟨#[c]⟩))=false∧(Builtin.Str.occurrences y ⟨#[c]⟩ 0 y.length (y.length+1)).isEmpty=false∧(Builtin.Str.partsBetween y (Builtin.Str.occurrences y ⟨#[c]⟩ 0 y.length (y.length+1)) (⟨#[c]⟩:Str).length).length≤1000 then some (D.list ((Builtin.Str.partsBetween y (Builtin.Str.occurrences y ⟨#[c]⟩ 0 y.length (y.length+1)) (⟨#[c]⟩:Str).length).map .str)) else none)=_
  have hle:=h.len
  rw[ho,hc1,hpq,if_pos ⟨rfl,by omega,by rw[k1,k2];simp;omega,rfl,by simp⟩]
  rfl
 have hp3:setL l2 "parts" (B.val (strsD [⟨#[]⟩,⟨#[]⟩,⟨#[]⟩,⟨ds.toArray⟩,⟨#[]⟩])) "peer"=some (B.val peerD):=(sN).trans hp2
 have hq3:setL l2 "parts" (B.val (strsD [⟨#[]⟩,⟨#[]⟩,⟨#[]⟩,⟨ds.toArray⟩,⟨#[]⟩])) "parts"=some (B.val (strsD [⟨#[]⟩,⟨#[]⟩,⟨#[]⟩,⟨ds.toArray⟩,⟨#[]⟩])):=setL_eq
 generalize setL l2 "parts" (B.val (strsD [⟨#[]⟩,⟨#[]⟩,⟨#[]⟩,⟨ds.toArray⟩,⟨#[]⟩]))=l3 at hp3 hq3
 refine R_next ((S_if (c:=false) (Bt_cmp kR (x:= .int 5) (y:= .int 5) (E_builtin1 (x:=strsD [⟨#[]⟩,⟨#[]⟩,⟨#[]⟩,⟨ds.toArray⟩,⟨#[]⟩]) kR kR kD kD kR kR (E_name kR kR (allL_val hq3)) kR) kR kR)).trans Ssl_nil) ?_
 refine R_next (S_assign (d:= .str "peer") (E_item kR (x:=peerD) (y:= .int 0) (E_name kR kR (purL_val hp3)) kR kR) kR kR) ?_
 refine R_next (S_assign (d:= .int m) (E_builtin1 (x:= .str ⟨ds.toArray⟩) kR kR kD kD kR kR (E_item kR (x:=strsD [⟨#[]⟩,⟨#[]⟩,⟨#[]⟩,⟨ds.toArray⟩,⟨#[]⟩]) (y:= .int 3) (E_name kR kR (purL_val ((sN).trans hq3))) kR kR) ?_) kR kR) ?_
 ·rw[←htx]
  show (if (tx m).length≤640 then (PySem.intText? (tx m)).map D.int else none)=_
  rw[if_pos kO,t4];rfl
 refine R_ret (S_ret ?_)
 kernel_rfl
theorem rep_str{c:Nat}(x:Str):((("229 it lies at (":Str)++Txt.mul ⟨#[c]⟩ 3)++x++⟨#[c]⟩++(") (|||7|)":Str))=repT c x.cps.toList:=by
 have hm:Txt.mul ⟨#[c]⟩ 3=⟨#[c,c,c]⟩:=rfl
 rw[hm,preS,sufS]
 have ext:∀{a b:Str},a.cps.toList=b.cps.toList→a=b:=fun {a b} e=>by
  cases a;cases b;congr 1;exact Array.toList_inj.mp e
 refine ext ?_
 rw[repT_list]
 unfold repL
 have app:∀a b:Str,(a++b).cps.toList=a.cps.toList++b.cps.toList:=fun a b=>by
  show (a.cps++b.cps).toList=_
  simp
 rw[app,app,app,app]
 simp
theorem lens{P M x C S:Str}(hp:P.length=16)(hm:M.length=3)(hc:C.length=1)(hs:S.length=9)(hx:x.length≤11):P.length+M.length≤lim∧(P++M).length+x.length≤lim∧(P++M++x).length+C.length≤lim∧(P++M++x++C).length+S.length≤lim:=by
 have hlim:lim=1000000:=rfl
 simp only[StrLen.append]
 omega
def talk1:Fn:=fnAt Challenge.pw_oy0159_01 "_law_talk"
structure TInv(ms:List Int)(sps:List (List Str))(l:LocB)(ts:List Str):Prop where
 talk:l "talk"=some (.own (ts.map .str))
 modes:l "modes"=some (.val (.list (ms.map .int)))
 sp:l "spoiled"=some (.val (.list (sps.map strsD)))
theorem talk_turn{glob:List (Str×D)}{n k c:Nat}{ms:List Int}{sps:List (List Str)}{l:LocB}{ts sp:List Str}{m:Int}(h:TInv ms sps l ts)(hk:l "place"=some (.val (.int (k:Int))))(hc:itemD (.str "|!x(|") (.int (k:Int))=some (.str ⟨#[c]⟩))(hm:ms[k]? =some m)(hs:sps[k]? =some sp)(hms:ms.length≤100)(hsl:sps.length≤100)(hts:ts.length≤1000)(hsp:sp.length≤1000)(ha:m.natAbs<10 ^ 9):
  ∃l',Ssl (ev fns1 glob (n+20)) false talk1.scope l (forB (stAt talk1.body 1))=some (.next,l')∧TInv ms sps l' (ts++[repT c (tx m).cps.toList]++sp):=by
 have hlim:lim=1000000:=rfl
 obtain⟨t1,t2,t3,t4⟩:=tx_ok ha
 show∃l',Ssl (ev fns1 glob (n+20)) false talk1.scope l [.Assign [_] (.Subscript _ _ _) _,.Expr (.Call (.Attribute _ _ _) [.BinOp (.BinOp (.BinOp (.BinOp _ _ (.BinOp _ _ _ _) _) _ (.Call (.Name _ _) [.Subscript _ _ _] [] _) _) _ _ _) _ _ _] [] _) _,.Expr (.Call (.Attribute _ _ _) [.Subscript _ _ _] [] _) _]=_∧_
 have e1:(ev fns1 glob (n+20)).S false talk1.scope l (stAt (forB (stAt talk1.body 1)) 0)=some (.next,setL l "mark" (.val (.str ⟨#[c]⟩))):=
  S_assign (E_item kR (x:= .str "|!x(|") (y:= .int (k:Int)) kR (E_name kR kR (purL_val hk)) hc) kR kR
 have g1:TInv ms sps (setL l "mark" (.val (.str ⟨#[c]⟩))) ts:=⟨(sN).trans h.talk,(sN).trans h.modes,(sN).trans h.sp⟩
 have g2:setL l "mark" (B.val (.str ⟨#[c]⟩)) "mark"=some (.val (.str ⟨#[c]⟩)):=setL_eq
 have g3:setL l "mark" (B.val (.str ⟨#[c]⟩)) "place"=some (.val (.int (k:Int))):=(sN).trans hk
 generalize setL l "mark" (B.val (.str ⟨#[c]⟩))=l1 at e1 g1 g2 g3
 have hmark:∀{q:Pos} {j:Nat},(ev fns1 glob (j+1)).E false talk1.scope (purL l1) (.Name "mark" q)=some (.str ⟨#[c]⟩):=E_name kR kR (purL_val g2)
 have hp16:(("229 it lies at (":Str)).length=16:=by decide
 have hs9:((") (|||7|)":Str)).length=9:=by decide
 have e2:(ev fns1 glob (n+20)).S false talk1.scope l1 (stAt (forB (stAt talk1.body 1)) 1)=some (.next,setL l1 "talk" (.own (ts.map .str++[.str (repT c (tx m).cps.toList)]))):=by
  refine S_append g1.talk ?_ kR kR kR kR (by simp;omega)
  rw[←rep_str]
  have hm3:(Txt.mul (⟨#[c]⟩:Str) 3).length=3:=rfl
  have hm1:(⟨#[c]⟩:Str).length=1:=rfl
  have hP:∀{q:Pos} {j:Nat},(ev fns1 glob (j+1)).E false talk1.scope (purL l1) (.Constant (.str "229 it lies at (") 0 q)=some (.str "229 it lies at ("):=rfl
  have hS:∀{q:Pos} {j:Nat},(ev fns1 glob (j+1)).E false talk1.scope (purL l1) (.Constant (.str ") (|||7|)") 0 q)=some (.str ") (|||7|)"):=rfl
  have hM:∀{q q2 q3:Pos} {j:Nat},(ev fns1 glob (j+2)).E false talk1.scope (purL l1) (.BinOp (.Name "mark" q) .Mult (.Constant (.int 3) 0 q2) q3)=some (.str (Txt.mul ⟨#[c]⟩ 3)):=E_bin (x:= .str ⟨#[c]⟩) (y:= .int 3) hmark (by rfl) kR
  generalize ("229 it lies at (":Str)=P at hp16 hP ⊢
  generalize (") (|||7|)":Str)=S at hs9 hS ⊢
  generalize Txt.mul (⟨#[c]⟩:Str) 3=M at hm3 hM ⊢
  generalize (⟨#[c]⟩:Str)=C at hm1 hmark hM ⊢
  obtain⟨b1,b2,b3,b4⟩:=lens hp16 hm3 hm1 hs9 t2
  refine E_bin (x:= .str (P++M++tx m++C)) (y:= .str S) ?_ hS (add_strs b4)
  refine E_bin (x:= .str (P++M++tx m)) (y:= .str C) ?_ hmark (add_strs b3)
  refine E_bin (x:= .str (P++M)) (y:= .str (tx m)) (E_bin (x:= .str P) (y:= .str M) hP hM (add_strs b1)) ?_ (add_strs b2)
  refine E_builtin1 (x:= .int m) kR kR kD kD kR kR (E_item kR (x:= .list (ms.map .int)) (y:= .int (k:Int)) (E_name kR kR (purL_val g1.modes)) (E_name kR kR (purL_val g3)) (item_nat (by rw[List.getElem?_map,hm];rfl) (by simp;omega))) ?_
  show (if small m=true then some (D.str (Str.ofString (toString m))) else none)=_
  rw[if_pos]
  ·rfl
  ·unfold small
   refine decide_eq_true ?_
   have:(10:Nat) ^ 9<2 ^ 60:=by decide
   omega
 have k1:setL l1 "talk" (B.own (ts.map .str++[.str (repT c (tx m).cps.toList)])) "talk"=some (.own (ts.map .str++[.str (repT c (tx m).cps.toList)])):=setL_eq
 have k2:setL l1 "talk" (B.own (ts.map .str++[.str (repT c (tx m).cps.toList)])) "modes"=some (.val (.list (ms.map .int))):=(sN).trans g1.modes
 have k3:setL l1 "talk" (B.own (ts.map .str++[.str (repT c (tx m).cps.toList)])) "spoiled"=some (.val (.list (sps.map strsD))):=(sN).trans g1.sp
 have k4:setL l1 "talk" (B.own (ts.map .str++[.str (repT c (tx m).cps.toList)])) "place"=some (.val (.int (k:Int))):=(sN).trans g3
 generalize setL l1 "talk" (B.own (ts.map .str++[.str (repT c (tx m).cps.toList)]))=l2 at e2 k1 k2 k3 k4
 have e3:(ev fns1 glob (n+20)).S false talk1.scope l2 (stAt (forB (stAt talk1.body 1)) 2)=some (.next,setL l2 "talk" (.own ((ts.map .str++[.str (repT c (tx m).cps.toList)])++sp.map .str))):=by
  refine S_extend k1 (E_item kR (x:= .list (sps.map strsD)) (y:= .int (k:Int)) (E_name kR kR (purL_val k3)) (E_name kR kR (purL_val k4)) (item_nat (d:=strsD sp) (by rw[List.getElem?_map,hs];rfl) (by simp;omega))) kR kR kR kR (by simp;omega)
 exact⟨_,(Ssl_next e1).trans ((Ssl_next e2).trans ((Ssl_next e3).trans Ssl_nil)),⟨setL_eq.trans (by simp),(sN).trans k2,(sN).trans k3⟩⟩
def nm5:List Str:=["a\"b","","z","\"","\"\""]
def said5:List Str:=["257 \"a\"\"b\"","257 made","257 \"z\" \"new\"","257 \"\"\"\"","257 \"\"\"\"\"\" made"]
def talkP(m0 m1 m2 m3 m4:Int)(s0 s1 s2 s3 s4:List Str):List Str:=
 said5++[("226 all told":Str)]++[repT 124 (tx m0).cps.toList]++s0++[repT 33 (tx m1).cps.toList]++s1++[repT 120 (tx m2).cps.toList]++s2++[repT 40 (tx m3).cps.toList]++s3++[repT 124 (tx m4).cps.toList]++s4
theorem talk_val{glob:List (Str×D)}{n:Nat}{m0 m1 m2 m3 m4:Int}{s0 s1 s2 s3 s4:List Str}(h0:m0.natAbs<10 ^ 9)(h1:m1.natAbs<10 ^ 9)(h2:m2.natAbs<10 ^ 9)(h3:m3.natAbs<10 ^ 9)(h4:m4.natAbs<10 ^ 9)(g0:s0.length≤100)(g1:s1.length≤100)(g2:s2.length≤100)(g3:s3.length≤100)(g4:s4.length≤100):
  (callD fns1 (ev fns1 glob (n+25)) "_law_talk" [strsD nm5,.list ([m0,m1,m2,m3,m4].map .int),.list ([s0,s1,s2,s3,s4].map strsD)]).bind retOf=some (strsD (talkP m0 m1 m2 m3 m4 s0 s1 s2 s3 s4)):=by
 show (Ssl (ev fns1 glob (n+25)) false talk1.scope (setL (setL (setL (fun _=>none) "spoiled" (.val (.list ([s0,s1,s2,s3,s4].map strsD)))) "modes" (.val (.list ([m0,m1,m2,m3,m4].map .int)))) "names" (.val (strsD nm5))) talk1.body).bind retOf=_
 show (Ssl (ev fns1 glob (n+25)) false talk1.scope _ [_,.For _ (.Call (.Name _ _) [_] [] _) _ [] _,_]).bind retOf=_
 refine R_next (S_assignOwn (ds:=(said5++[("226 all told":Str)]).map .str) kR kR kR kR) ?_
 generalize hl:setL (setL (setL (setL (fun _=>none) "spoiled" (B.val (.list ([s0,s1,s2,s3,s4].map strsD)))) "modes" (.val (.list ([m0,m1,m2,m3,m4].map .int)))) "names" (.val (strsD nm5))) "talk" (.own ((said5++[("226 all told":Str)]).map .str))=l
 have i0:TInv [m0,m1,m2,m3,m4] [s0,s1,s2,s3,s4] l (said5++[("226 all told":Str)]):=by
  rw[←hl]
  exact⟨kR,kR,kR⟩
 clear hl
 have hset:∀{l:LocB} {ts:List Str} {k:Int},TInv [m0,m1,m2,m3,m4] [s0,s1,s2,s3,s4] l ts→TInv [m0,m1,m2,m3,m4] [s0,s1,s2,s3,s4] (setL l "place" (.val (.int k))) ts:=fun h=>⟨(sN).trans h.talk,(sN).trans h.modes,(sN).trans h.sp⟩
 have hsd:(said5++[("226 all told":Str)]).length=6:=rfl
 obtain⟨l1,e1,i1⟩:=talk_turn (glob:=glob) (n:=n+4) (k:=0) (c:=124) (m:=m0) (sp:=s0) (hset i0) setL_eq kR rfl rfl (by simp) (by simp) kO kO h0
 obtain⟨l2,e2,i2⟩:=talk_turn (glob:=glob) (n:=n+4) (k:=1) (c:=33) (m:=m1) (sp:=s1) (hset i1) setL_eq kR rfl rfl (by simp) (by simp) (by simp only[List.length_append,List.length_cons,List.length_nil] at hsd ⊢;omega) kO h1
 obtain⟨l3,e3,i3⟩:=talk_turn (glob:=glob) (n:=n+4) (k:=2) (c:=120) (m:=m2) (sp:=s2) (hset i2) setL_eq kR rfl rfl (by simp) (by simp) (by simp only[List.length_append,List.length_cons,List.length_nil] at hsd ⊢;omega) kO h2
 obtain⟨l4,e4,i4⟩:=talk_turn (glob:=glob) (n:=n+4) (k:=3) (c:=40) (m:=m3) (sp:=s3) (hset i3) setL_eq kR rfl rfl (by simp) (by simp) (by simp only[List.length_append,List.length_cons,List.length_nil] at hsd ⊢;omega) kO h3
 obtain⟨l5,e5,i5⟩:=talk_turn (glob:=glob) (n:=n+4) (k:=4) (c:=124) (m:=m4) (sp:=s4) (hset i4) setL_eq kR rfl rfl (by simp) (by simp) (by simp only[List.length_append,List.length_cons,List.length_nil] at hsd ⊢;omega) kO h4
 refine R_next (S_forN (its:=[.int 0,.int 1,.int 2,.int 3,.int 4]) kR kR (l':=l5) ?_) (R_ret (S_ret (E_name kR kR ((allL_own i5.talk).trans ?_))))
 ·exact(forL_next rfl e1).trans ((forL_next rfl e2).trans ((forL_next rfl e3).trans ((forL_next rfl e4).trans ((forL_next rfl e5).trans forL_nil))))
 ·rfl
inductive HRun (C:Cx) (r:Ev) (fn:Fn) (nw:Str) (ie se:Expr):HSt→List Str→HSt→Prop
 |nil (a):HRun C r fn nw ie se a [] a
 |cons {a b c t ts}:HStep C r fn nw ie se a t b→HRun C r fn nw ie se b ts c→HRun C r fn nw ie se a (t::ts) c
section
variable{C:Cx}{r:Ev}{fn:Fn}{nw:Str}{ie se:Expr}
theorem HRun.append{a b c:HSt}{ts us:List Str}(h:HRun C r fn nw ie se a ts b)(g:HRun C r fn nw ie se b us c):HRun C r fn nw ie se a (ts++us) c:=by
 induction h with
 |nil _=>exact g
 |cons s _ ih=>exact .cons s (ih g)
theorem HRun.one{a b:HSt}{t:Str}(h:HStep C r fn nw ie se a t b):HRun C r fn nw ie se a [t] b:= .cons h (.nil _)
theorem HRun.fun{a c:HSt}{ts:List Str}(h:HRun C r fn nw ie se a ts c):∃st:Nat→HSt,st 0=a∧st ts.length=c∧∀(j:Nat) (d:D),(ts.map D.str)[j]? =some d→∃t,d= .str t∧HStep C r fn nw ie se (st j) t (st (j+1)):=by
 induction h with
 |nil a=>exact⟨fun _=>a,rfl,rfl,fun j d e=>by simp at e⟩
 | @cons a b c t ts s _ ih=>
   obtain⟨st,h0,h1,h2⟩:=ih
   refine⟨fun j=>match j with|0=>a|j+1=>st j,rfl,h1,fun j d e=> ?_⟩
   cases j with
   |zero=>
    simp at e
    subst e
    refine⟨t,rfl,?_⟩
    show HStep C r fn nw ie se a t (st 0)
    rw[h0];exact s
   |succ j=>
    rw[List.map_cons,List.getElem?_cons_succ] at e
    exact h2 j d e
end
def excOf:Fl×LocB→Option (Str×D)
 |(.exc c d,_)=>some (c,d)
 |_=>none
theorem excOf_ex{o:Option (Fl×LocB)}{c:Str}{d:D}(h:o.bind excOf=some (c,d)):∃l',o=some (.exc c d,l'):=by
 obtain⟨⟨f,l'⟩,h1,h2⟩:=zbs.mp h
 cases f with
 |exc c' d'=>
  have h2:some (c',d')=some (c,d):=h2
  cases h2
  exact⟨l',h1⟩
 |next=>cases h2
 |brk=>cases h2
 |cont=>cases h2
 |ret d=>cases h2
section
variable{C:Cx}(hf:C.fns=fns1){glob:List (Str×D)}{n:Nat}
include hf
theorem pret257{t x:Str}(h:(Ssl (ev fns1 glob (n+25)) false p257.scope (setL (fun _=>none) "resp" (.val (.str t))) p257.body).bind retOf=some (.str x)):PRet C (ev fns1 glob (n+25)) "parse257" [.str t] (.str x):=by
 obtain⟨l',e⟩:=retOf_ex h
 exact⟨p257,_,l',by rw[hf];rfl,rfl,e⟩
theorem pexc257{t:Str}(h:Txt.slice t none (some 3)≠"257")(hl:t.length≤1000):PExc C (ev fns1 glob (n+25)) "parse257" [.str t] "error_reply" t:=
 ⟨p257,_,_,by rw[hf];rfl,rfl,p257_exc (n:=n+5) h hl⟩
theorem pexc229{t c x:Str}(h:(Ssl (ev fns1 glob (n+25)) false p229.scope (setL (setL (fun _=>none) "peer" (.val peerD)) "resp" (.val (.str t))) p229.body).bind excOf=some (c,.str x)):PExc C (ev fns1 glob (n+25)) "parse229" [.str t,peerD] c x:=by
 obtain⟨l',e⟩:=excOf_ex h
 exact⟨p229,_,l',by rw[hf];rfl,rfl,e⟩
theorem pret229{c:Nat}{m:Int}(h:Mk c (tx m).cps.toList)(hm:m.natAbs<10 ^ 9):PRet C (ev fns1 glob (n+25)) "parse229" [.str (repT c (tx m).cps.toList),peerD] (.tup [.str "peer",.int m]):=by
 obtain⟨l',e⟩:=p229_ok (glob:=glob) (n:=n+5) h hm
 exact⟨p229,_,l',by rw[hf];rfl,rfl,e⟩
end
theorem mkOf{c:Nat}{m:Int}(hc:c<128)(h41:c≠41)(h45:c≠45)(hd:¬(48≤c∧c≤57))(hm:m.natAbs<10 ^ 9):Mk c (tx m).cps.toList:=by
 obtain⟨t1,t2,t3,t4⟩:=tx_ok hm
 refine⟨hc,h41,t1,fun hh=> ?_,?_⟩
 ·rcases t1 c hh with h|h
  ·exact h45 h
  ·exact hd h
 ·have:(tx m).cps.toList.length=(tx m).length:=by simp[Str.length]
  omega
abbrev ie1:Expr:=putTarget heard1.body
abbrev se1:Expr:=giveSlice heard1.body
abbrev R1(C:Cx)(glob:List (Str×D))(n:Nat):=HRun C (ev fns1 glob (n+25)) heard1 "waiting" ie1 se1
abbrev St1(C:Cx)(glob:List (Str×D))(n:Nat):=HStep C (ev fns1 glob (n+25)) heard1 "waiting" ie1 se1
section
variable{C:Cx}(hf:C.fns=fns1){glob:List (Str×D)}{n:Nat}
include hf
theorem st_name{kvs:List (Str×D)}{w q:List D}{t x:Str}(h:(Ssl (ev fns1 glob (n+25)) false p257.scope (setL (fun _=>none) "resp" (.val (.str t))) p257.body).bind retOf=some (.str x))(hw:w.length≤100):St1 C glob n (kvs,w,q) t (kvs,w++[.str x],q):=
 .name (pret257 hf h) (by have hlim:lim=1000000:=rfl
                          omega)
theorem st_proto{kvs:List (Str×D)}{w q:List D}{t:Str}(h1:Txt.slice t none (some 3)≠"257")(hl:t.length≤1000)(h:(Ssl (ev fns1 glob (n+25)) false p229.scope (setL (setL (fun _=>none) "peer" (.val peerD)) "resp" (.val (.str t))) p229.body).bind excOf=some (("error_proto":Str),D.str t))(hq:q.length≤100):St1 C glob n (kvs,w,q) t (kvs,w,q++[.str t]):=
 .proto (pexc257 hf h1 hl) (pexc229 hf h) (by have hlim:lim=1000000:=rfl
                                              omega)
theorem st_reply{kvs:List (Str×D)}{w q:List D}{t:Str}(h1:Txt.slice t none (some 3)≠"257")(hl:t.length≤1000)(h:(Ssl (ev fns1 glob (n+25)) false p229.scope (setL (setL (fun _=>none) "peer" (.val peerD)) "resp" (.val (.str t))) p229.body).bind excOf=some (("error_reply":Str),D.str t))(hq:q.length≤100):St1 C glob n (kvs,w,q) t (kvs,w,q++[.str (("no ":Str)++t)]):=
 .reply (pexc257 hf h1 hl) (pexc229 hf h) (by have hlim:lim=1000000:=rfl
                                              omega) (by have hlim:lim=1000000:=rfl
                                                         omega)
theorem st_found{kvs:List (Str×D)}{w q:List D}{key:Str}{c:Nat}{m:Int}(h:Mk c (tx m).cps.toList)(hm:m.natAbs<10 ^ 9)(hk:kvs.length≤1000)(hw:w.length≤100):St1 C glob n (kvs,.str key::w,q) (repT c (tx m).cps.toList) (storedS kvs key (.tup [.str "peer",.int m]),w,q):=by
 have hlim:lim=1000000:=rfl
 refine .found (pexc257 hf (by rw[rep_pre3];decide) (by rw[repT_len];have:=h.len;omega)) (pret229 hf h hm) (fun l hl=> ?_) (fun l hl=> ?_) hk
 ·show (ev fns1 glob (n+25)).E false heard1.scope l (.Subscript (.Name "waiting" _) (.Constant (.int 0) 0 _) _)=_
  exact E_item kR (x:= .list (.str key::w)) (y:= .int ((0:Nat):Int)) (E_name kR kR hl) kR (item_nat rfl (by simp;omega))
 ·show (ev fns1 glob (n+25)).E false heard1.scope l (.Subscript (.Name "waiting" _) (.Slice (some (.Constant (.int 1) 0 _)) none none _) _)=_
  exact(E_from (i:=1) (ds:= .str key::w) (E_name kR kR hl) kR (by simp;omega))
end
def odd4:List (List Str):=[["229 at 272)"],["229 at (|||7|x"],["229 at (||7|)","229 at (|||7||)"],["229 at (|||7|!)"]]
def oddP(k:Nat)(b:Bool):List Str:=if b then odd4.getD k [] else []
section
variable{C:Cx}(hf:C.fns=fns1){glob:List (Str×D)}{n:Nat}
include hf
theorem odd_run{kvs:List (Str×D)}{w q:List D}(k:Nat)(b:Bool)(hk:k<4)(hq:q.length≤50):R1 C glob n (kvs,w,q) (oddP k b) (kvs,w,q++(oddP k b).map .str):=by
 cases b with
 |false=>
  show R1 C glob n (kvs,w,q) [] (kvs,w,q++[])
  rw[List.append_nil]
  exact .nil _
 |true=>
  match k,hk with
  |0,_=>exact .one (st_proto hf (by decide+kernel) (by decide+kernel) kR kO)
  |1,_=>exact .one (st_proto hf (by decide+kernel) (by decide+kernel) kR kO)
  |2,_=>
   show R1 C glob n (kvs,w,q) ["229 at (||7|)","229 at (|||7||)"] (kvs,w,q++[.str "229 at (||7|)",.str "229 at (|||7||)"])
   rw[show q++[D.str "229 at (||7|)",.str "229 at (|||7||)"]=(q++[.str "229 at (||7|)"])++[.str "229 at (|||7||)"] by simp]
   exact .cons (st_proto hf (by decide+kernel) (by decide+kernel) kR kO) (.one (st_proto hf (by decide+kernel) (by decide+kernel) kR (by simp;omega)))
  |3,_=>exact .one (st_proto hf (by decide+kernel) (by decide+kernel) kR kO)
abbrev pm(m:Int):D:= .tup [.str "peer",.int m]
def refP(b0 b1 b2 b3:Bool):List Str:=[("no 226 all told":Str)]++oddP 0 b0++oddP 1 b1++oddP 2 b2++oddP 3 b3
def bookP(m0 m1 m2 m3 m4:Int):List (Str×D):=[("a\"b",pm m0),("",pm m1),("z",pm m2),("\"",pm m3),("\"\"",pm m4)]
omit hf in
theorem oddP_len(k:Nat)(b:Bool)(hk:k<4):(oddP k b).length≤2:=by
 cases b with
 |false=>simp[oddP]
 |true=>match k,hk with
  |0,_=>decide
  |1,_=>decide
  |2,_=>decide
  |3,_=>decide
theorem told_run{m0 m1 m2 m3 m4:Int}{b0 b1 b2 b3:Bool}(h0:m0.natAbs<10 ^ 9)(h1:m1.natAbs<10 ^ 9)(h2:m2.natAbs<10 ^ 9)(h3:m3.natAbs<10 ^ 9)(h4:m4.natAbs<10 ^ 9):
  R1 C glob n ([],[],[]) (talkP m0 m1 m2 m3 m4 (oddP 0 b0) (oddP 1 b1) (oddP 2 b2) (oddP 3 b3) []) (bookP m0 m1 m2 m3 m4,[],(refP b0 b1 b2 b3).map .str):=by
 have o0:=oddP_len 0 b0 kO
 have o1:=oddP_len 1 b1 kO
 have o2:=oddP_len 2 b2 kO
 have o3:=oddP_len 3 b3 kO
 unfold talkP
 rw[List.append_nil]
 have s0:R1 C glob n ([],[],[]) (said5++[("226 all told":Str)]) ([],[.str "a\"b",.str "",.str "z",.str "\"",.str "\"\""],[.str "no 226 all told"]):=by
  refine HRun.append (b:=([],[.str "a\"b",.str "",.str "z",.str "\"",.str "\"\""],[])) ?_ (.one ?_)
  ·exact .cons (st_name hf (x:="a\"b") kR kD) (.cons (st_name hf (x:="") kR kD) (.cons (st_name hf (x:="z") kR kD) (.cons (st_name hf (x:="\"") kR kD) (.one (st_name hf (x:="\"\"") kR kD)))))
  ·have:=st_reply (C:=C) hf (glob:=glob) (n:=n) (kvs:=[]) (w:=[.str "a\"b",.str "",.str "z",.str "\"",.str "\"\""]) (q:=[]) (t:="226 all told") (by decide+kernel) (by decide+kernel) kR (by simp)
   rw[show (("no ":Str)++("226 all told":Str))="no 226 all told" by decide+kernel] at this
   exact this
 have mk124:∀{m:Int},m.natAbs<10 ^ 9→Mk 124 (tx m).cps.toList:=fun h=>mkOf kO kO kO kO h
 have f0:=(s0.append (.one (st_found (key:="a\"b") hf (mk124 h0) h0 (by simp) (by simp)))).append (odd_run hf 0 b0 kO (by simp))
 have f1:=(f0.append (.one (st_found (kvs:=[("a\"b",pm m0)]) (key:="") hf (mkOf (c:=33) kO kO kO kO h1) h1 (by simp) (by simp)))).append (odd_run hf 1 b1 kO (by simp;omega))
 have f2:=(f1.append (.one (st_found (kvs:=[("a\"b",pm m0),("",pm m1)]) (key:="z") hf (mkOf (c:=120) kO kO kO kO h2) h2 (by simp) (by simp)))).append (odd_run hf 2 b2 kO (by simp;omega))
 have f3:=(f2.append (.one (st_found (kvs:=[("a\"b",pm m0),("",pm m1),("z",pm m2)]) (key:="\"") hf (mkOf (c:=40) kO kO kO kO h3) h3 (by simp) (by simp)))).append (odd_run hf 3 b3 kO (by simp;omega))
 have f4:=f3.append (.one (st_found (kvs:=[("a\"b",pm m0),("",pm m1),("z",pm m2),("\"",pm m3)]) (key:="\"\"") (w:=[]) hf (mk124 h4) h4 (by simp) (by simp)))
 have e:(refP b0 b1 b2 b3).map D.str=[.str "no 226 all told"]++(oddP 0 b0).map .str++(oddP 1 b1).map .str++(oddP 2 b2).map .str++(oddP 3 b3).map .str:=by
  simp[refP]
 rw[e]
 exact f4
end
structure MSc(sc:Scope):Prop where
 nm:∀x∈(["sequences","candidate","s1","s2","result"]:List Str),sc.names.lookup x=some .local
 ok:∀p2 p3 p4:Pos,okComp sc sSc [⟨.Name "s" p2,.Name "sequences" p3,[.Name "s" p4],0⟩]=true
section
variable{fns:List (Str×Fn)}{glob:List (Str×D)}{sc:Scope}(M:MSc sc){n:Nat}{p:Nat→Pos}
include M
theorem mvar{x:Str}{q:Pos}{l:Loc}{d:D}{j:Nat}(hx:x∈(["sequences","candidate","s1","s2","result"]:List Str))(h:l x=some d):(ev fns glob (j+1)).E false sc l (.Name x q)=some d:=by
 refine E_name ?_ (by rw[M.nm x hx];rfl) h
 simp only[List.mem_cons,List.not_mem_nil,or_false] at hx
 rcases hx with rfl|rfl|rfl|rfl|rfl <;> decide
theorem m_okT{x:Str}{q:Pos}(hx:x∈(["sequences","candidate","s1","s2","result"]:List Str)):okT sc (.Name x q)=true:=by
 show decide (sc.names.lookup x=some .local∨sc.names.lookup x=some .cell)=true
 rw[M.nm x hx];decide
def MK(l l':LocB):Prop:=∀x∈(["sequences","result"]:List Str),l' x=l x
abbrev inB(p:Nat→Pos):List Stmt:=[.If (.Compare (.Name "candidate" (p 21)) [.In] [.Subscript (.Name "s2" (p 22)) (.Slice (some (.Constant (.int 1) 0 (p 23))) none none (p 24)) (p 25)] (p 26)) [.Assign [.Name "candidate" (p 27)] (.Constant .none 0 (p 28)) (p 29),.Break (p 30)] [] (p 31)]
theorem m_if{l:LocB}{a:Addr}{c:Str}{xs:List Str}(h1:l "candidate"=some (.val (.str c)))(h2:l "s2"=some (.val (.lref a (xs.map .str))))(hlen:xs.length≤lim):
  Ssl (ev fns glob (n+4)) false sc l (inB p)=if xs.tail.contains c then some (.brk,setL l "candidate" (.val .none)) else some (.next,l):=by
 have ht:Bt (ev fns glob (n+3)) false sc (allL l) 4 (.Compare (.Name "candidate" (p 21)) [.In] [.Subscript (.Name "s2" (p 22)) (.Slice (some (.Constant (.int 1) 0 (p 23))) none none (p 24)) (p 25)] (p 26))=some (xs.tail.contains c):=by
  refine Bt_cmp (by rfl) (x:= .str c) (y:= .list (xs.tail.map .str)) (mvar M (by simp) (allL_val h1)) (ev_slice1 kD (M.nm _ (by simp)) (allL_val h2) hlen) ?_
  exact inD_strs c xs.tail
 cases hc:xs.tail.contains c with
 |true=>
  rw[hc] at ht
  refine Ssl_brk ((S_if ht).trans ?_)
  exact(Ssl_next (S_assign (d:= .none) (by rfl) (m_okT M (by simp)) kD)).trans (Ssl_brk rfl)
 |false=>
  rw[hc] at ht
  exact(Ssl_next ((S_if ht).trans Ssl_nil)).trans Ssl_nil
theorem m_inner{cur:Addr→List Str}{c:Str}:∀(hs:List Addr) (l:LocB),l "candidate"=some (.val (.str c))→(∀a∈hs,(cur a).length≤lim)→
  ∃l',forL (ev fns glob (n+4)) false sc (.Name "s2" (p 19)) (inB p) l (lrefs hs cur)=some (if headOk (hs.map cur) c then .next else .brk,l')∧MK l l'∧(headOk (hs.map cur) c=true→l' "candidate"=some (.val (.str c)))
 |[],l,h,_=>⟨l,forL_nil,fun _ _=>rfl,fun _=>h⟩
 |a::hs,l,h,hl=>by
  have h1:setL l "s2" (B.val (.lref a ((cur a).map .str))) "candidate"=some (.val (.str c)):=(sN).trans h
  have hb:=m_if (fns:=fns) (glob:=glob) (n:=n) (p:=p) M h1 setL_eq (hl a zmS)
  cases hc:(cur a).tail.contains c with
  |true=>
   rw[hc] at hb
   have hk:headOk ((a::hs).map cur) c=false:=by
    unfold headOk
    rw[List.map_cons,List.all_cons,List.drop_one,hc];rfl
   rw[hk]
   refine⟨_,forL_brk rfl hb,fun x hx=> ?_,fun e=>by cases e⟩
   simp only[List.mem_cons,List.not_mem_nil,or_false] at hx
   rcases hx with rfl|rfl <;> exact(sN).trans (sN)
  |false=>
   rw[hc] at hb
   have hk:headOk ((a::hs).map cur) c=headOk (hs.map cur) c:=by
    unfold headOk
    rw[List.map_cons,List.all_cons,List.drop_one,hc];rfl
   rw[hk]
   obtain⟨l',e',k',g'⟩:=m_inner hs _ h1 fun b hb'=>hl b (zmC _ hb')
   refine⟨l',(forL_next rfl hb).trans e',fun x hx=>(k' x hx).trans ?_,g'⟩
   simp only[List.mem_cons,List.not_mem_nil,or_false] at hx
   rcases hx with rfl|rfl <;> exact setL_ne kD
abbrev outB(p:Nat→Pos):List Stmt:=[
  .Assign [.Name "candidate" (p 14)] (.Subscript (.Name "s1" (p 15)) (.Constant (.int 0) 0 (p 16)) (p 17)) (p 18),
  .For (.Name "s2" (p 19)) (.Name "sequences" (p 20)) (inB p) [.Break (p 32)] (p 33)]
theorem m_outer{live:List Addr}{cur:Addr→List Str}{c:Str}(hl:∀a∈live,(cur a).length≤lim):∀(hs:List Addr) (l:LocB),l "sequences"=some (.val (.list (lrefs live cur)))→pickHead (live.map cur) (hs.map cur)=some c→(∀a∈hs,(cur a).length≤lim)→
  ∃l',forL (ev fns glob (n+6)) false sc (.Name "s1" (p 12)) (outB p) l (lrefs hs cur)=some (.brk,l')∧MK l l'∧l' "candidate"=some (.val (.str c))
 |[],l,h,hp,_=>by cases hp
 |a::hs,l,h,hp,hlen=>by
  have ha:=hlen a zmS
  rw[List.map_cons] at hp
  unfold pickHead at hp
  cases hh:(cur a).head? with
  |none=>rw[hh] at hp;cases hp
  |some c'=>
   rw[hh] at hp
   dsimp only at hp
   have h1:setL l "s1" (B.val (.lref a ((cur a).map .str))) "sequences"=some (.val (.list (lrefs live cur))):=(sN).trans h
   have h2:setL l "s1" (B.val (.lref a ((cur a).map .str))) "s1"=some (.val (.lref a ((cur a).map .str))):=setL_eq
   have h3:setL l "s1" (B.val (.lref a ((cur a).map .str))) "result"=l "result":=setL_ne kD
   have h4:setL l "s1" (B.val (.lref a ((cur a).map .str))) "sequences"=l "sequences":=setL_ne kD
   generalize hl1:setL l "s1" (B.val (.lref a ((cur a).map .str)))=l1 at h1 h2 h3 h4
   have e1:(ev fns glob (n+6)).S false sc l1 (.Assign [.Name "candidate" (p 14)] (.Subscript (.Name "s1" (p 15)) (.Constant (.int 0) 0 (p 16)) (p 17)) (p 18))=some (.next,setL l1 "candidate" (.val (.str c'))):=by
    refine S_assign (E_item (by rfl) (x:= .lref a ((cur a).map .str)) (y:= .int ((0:Nat):Int)) (mvar M (by simp) (purL_val h2)) (by rfl) ?_) (m_okT M (by simp)) kD
    show itemD (.list ((cur a).map .str)) (.int ((0:Nat):Int))=_
    refine item_nat ?_ (by simpa using ha)
    rw[List.getElem?_map,←List.head?_eq_getElem?,hh];rfl
   obtain⟨l2,e2,k2,g2⟩:=m_inner (fns:=fns) (glob:=glob) (n:=n+1) (p:=p) M (cur:=cur) (c:=c') live (setL l1 "candidate" (.val (.str c'))) setL_eq hl
   have hmk:MK l l2:=fun x hx=>by
    refine(k2 x hx).trans ?_
    simp only[List.mem_cons,List.not_mem_nil,or_false] at hx
    rcases hx with rfl|rfl
    ·exact(sN).trans h4
    ·exact(sN).trans h3
   have hits:forIts (ev fns glob (n+5)) false sc (purL (setL l1 "candidate" (.val (.str c')))) (.Name "sequences" (p 20))=some (lrefs live cur):=by
    show ((ev fns glob (n+5)).E false sc _ (.Name "sequences" (p 20))).bind iterD=_
    rw[mvar M (by simp) (purL_val ((sN).trans h1))];rfl
   have hok:(okT sc (.Name "s2" (p 19))&& !isSetE (.Name "sequences" (p 20))&&(isTupT (.Name "s2" (p 19))|| !isEnumE (.Name "sequences" (p 20))))=true:=by
    rw[m_okT M (by simp)];rfl
   cases hk:headOk (live.map cur) c' with
   |true=>
    rw[hk] at e2 hp
    have hp:some c'=some c:=hp
    cases hp
    have hb:Ssl (ev fns glob (n+6)) false sc l1 (outB p)=some (.brk,l2):=
     (Ssl_next e1).trans (Ssl_brk (S_forE hok hits e2 (.inr (.inl rfl)) (Ssl_brk rfl)))
    exact⟨l2,forL_brk (by rw[←hl1];rfl) hb,hmk,g2 hk⟩
   |false=>
    rw[hk] at e2 hp
    have hb:Ssl (ev fns glob (n+6)) false sc l1 (outB p)=some (.next,l2):=
     (Ssl_next e1).trans ((Ssl_next (S_forB hok hits e2)).trans Ssl_nil)
    have hs2:l2 "sequences"=some (.val (.list (lrefs live cur))):=(hmk _ (by simp)).trans h
    obtain⟨l',e',k',g'⟩:=m_outer hl hs l2 hs2 hp fun b hb'=>hlen b (zmC _ hb')
    exact⟨l',(forL_next (by rw[←hl1];rfl) hb).trans e',fun x hx=>(k' x hx).trans (hmk x hx),g'⟩
end
section
variable{fns:List (Str×Fn)}{glob:List (Str×D)}{sc:Scope}(M:MSc sc){n:Nat}{p:Nat→Pos}
include M
theorem m_round{hs:List Addr}{cur:Addr→List Str}{xs:List Str}{c:Str}(hlen:hs.length≤1000)(hcl:∀a∈hs,(cur a).length≤1000)(hx:xs.length≤1000)
  (hpos:((p 44).endLine==(p 46).line)=true) (hne:hs.filter (fun a=> !(cur a).isEmpty)≠[]) (hp:pickHead ((hs.filter fun a=> !(cur a).isEmpty).map cur) ((hs.filter fun a=> !(cur a).isEmpty).map cur)=some c):
  ∃l',Ssl (ev fns glob (n+10)) false sc (c3L hs cur xs) (midS p)=some (.next,l')∧l' "sequences"=some (.val (.list (lrefs (hs.filter fun a=> !(cur a).isEmpty) cur)))∧l' "result"=some (.own ((xs++[c]).map .str))∧l' "candidate"=some (.val (.str c)):=by
 have hlim:lim=1000000:=rfl
 have h0:c3L hs cur xs "sequences"=some (.val (.list (lrefs hs cur))):=by unfold c3L;rw[if_pos rfl]
 have h0r:c3L hs cur xs "result"=some (.own (xs.map .str)):=by unfold c3L;rw[if_neg kD,if_pos rfl]
 have hlive:∀a∈hs.filter (fun a=> !(cur a).isEmpty),(cur a).length≤lim:=fun a ha=>by have:=hcl a (zfil.mp ha).1;omega
 have hll:(hs.filter fun a=> !(cur a).isEmpty).length≤hs.length:=List.length_filter_le _ _
 have e0:(ev fns glob (n+10)).S false sc (c3L hs cur xs) (.Assign [.Name "sequences" (p 0)] (.ListComp (.Name "s" (p 1)) [⟨.Name "s" (p 2),.Name "sequences" (p 3),[.Name "s" (p 4)],0⟩] sSc (p 5)) (p 6))=some (.next,setL (c3L hs cur xs) "sequences" (.val (.list (lrefs (hs.filter fun a=> !(cur a).isEmpty) cur)))):=
  S_assign (mid_comp (p6:=p 0) (n:=n+6) (M.nm _ (by simp)) (M.ok _ _ _) h0 kO fun a ha=>by have:=hcl a ha;omega) (m_okT M (by simp)) kD
 generalize (hs.filter fun a=> !(cur a).isEmpty)=live at hne hp hlive hll e0
 have h1:setL (c3L hs cur xs) "sequences" (B.val (.list (lrefs live cur))) "sequences"=some (.val (.list (lrefs live cur))):=setL_eq
 have h1r:setL (c3L hs cur xs) "sequences" (B.val (.list (lrefs live cur))) "result"=some (.own (xs.map .str)):=(sN).trans h0r
 generalize setL (c3L hs cur xs) "sequences" (B.val (.list (lrefs live cur)))=l1 at e0 h1 h1r
 have hb:Bt (ev fns glob (n+9)) false sc (allL l1) 4 (.UnaryOp .Not (.Name "sequences" (p 7)) (p 8))=some false:=by
  have ht:Bt (ev fns glob (n+9)) false sc (allL l1) 3 (.Name "sequences" (p 7))=some true:=by
   show ((ev fns glob (n+9)).E false sc (allL l1) (.Name "sequences" (p 7))).bind truD=_
   rw[mvar M (by simp) (allL_val h1)]
   show truD (.list (lrefs live cur))=_
   rw[tru_list (by simp[lrefs];omega)]
   cases live with
   |nil=>exact absurd rfl hne
   |cons a r=>rfl
  exact Bt_not ht
 obtain⟨l2,e2,k2,g2⟩:=m_outer (fns:=fns) (glob:=glob) (n:=n+3) (p:=p) M hlive live l1 h1 hp hlive
 have hits:forIts (ev fns glob (n+9)) false sc (purL l1) (.Name "sequences" (p 13))=some (lrefs live cur):=by
  show ((ev fns glob (n+9)).E false sc _ (.Name "sequences" (p 13))).bind iterD=_
  rw[mvar M (by simp) (purL_val h1)];rfl
 have hok:(okT sc (.Name "s1" (p 12))&& !isSetE (.Name "sequences" (p 13))&&(isTupT (.Name "s1" (p 12))|| !isEnumE (.Name "sequences" (p 13))))=true:=by
  rw[m_okT M (by simp)];rfl
 have hc:Bt (ev fns glob (n+9)) false sc (allL l2) 4 (.Compare (.Name "candidate" (p 35)) [.Is] [.Constant .none 0 (p 36)] (p 37))=some false:=
  Bt_cmp (by rfl) (x:= .str c) (y:= .none) (mvar M (by simp) (allL_val g2)) (by rfl) (by rfl)
 have hr2:l2 "result"=some (.own (xs.map .str)):=(k2 _ (by simp)).trans h1r
 refine⟨setL l2 "result" (.own (xs.map .str++[.str c])),?_,(sN).trans ((k2 _ (by simp)).trans h1),setL_eq.trans (by simp),(sN).trans g2⟩
 unfold midS
 refine(Ssl_next e0).trans ?_
 refine(Ssl_next ((S_if hb).trans Ssl_nil)).trans ?_
 refine(Ssl_next (S_forB hok hits e2)).trans ?_
 refine(Ssl_next ((S_if hc).trans Ssl_nil)).trans ?_
 exact(Ssl_next (S_append hr2 (mvar M (by simp) (purL_val g2)) hpos (by rfl) kD kD (by simp;omega))).trans Ssl_nil
theorem m_end{hs:List Addr}{cur:Addr→List Str}{xs:List Str}(hlen:hs.length≤1000)(hcl:∀a∈hs,(cur a).length≤1000)(he:hs.filter (fun a=> !(cur a).isEmpty)=[]):
  ∃l',Ssl (ev fns glob (n+10)) false sc (c3L hs cur xs) (midS p)=some (.ret (.list (xs.map .str)),l'):=by
 have hlim:lim=1000000:=rfl
 have h0:c3L hs cur xs "sequences"=some (.val (.list (lrefs hs cur))):=by unfold c3L;rw[if_pos rfl]
 have h0r:c3L hs cur xs "result"=some (.own (xs.map .str)):=by unfold c3L;rw[if_neg kD,if_pos rfl]
 have e0:(ev fns glob (n+10)).S false sc (c3L hs cur xs) (.Assign [.Name "sequences" (p 0)] (.ListComp (.Name "s" (p 1)) [⟨.Name "s" (p 2),.Name "sequences" (p 3),[.Name "s" (p 4)],0⟩] sSc (p 5)) (p 6))=some (.next,setL (c3L hs cur xs) "sequences" (.val (.list (lrefs (hs.filter fun a=> !(cur a).isEmpty) cur)))):=
  S_assign (mid_comp (p6:=p 0) (n:=n+6) (M.nm _ (by simp)) (M.ok _ _ _) h0 kO fun a ha=>by have:=hcl a ha;omega) (m_okT M (by simp)) kD
 rw[he] at e0
 have h1:setL (c3L hs cur xs) "sequences" (B.val (.list (lrefs [] cur))) "sequences"=some (.val (.list (lrefs [] cur))):=setL_eq
 have h1r:setL (c3L hs cur xs) "sequences" (B.val (.list (lrefs [] cur))) "result"=some (.own (xs.map .str)):=(sN).trans h0r
 generalize setL (c3L hs cur xs) "sequences" (B.val (.list (lrefs [] cur)))=l1 at e0 h1 h1r
 have hb:Bt (ev fns glob (n+9)) false sc (allL l1) 4 (.UnaryOp .Not (.Name "sequences" (p 7)) (p 8))=some true:=by
  have ht:Bt (ev fns glob (n+9)) false sc (allL l1) 3 (.Name "sequences" (p 7))=some false:=by
   show ((ev fns glob (n+9)).E false sc (allL l1) (.Name "sequences" (p 7))).bind truD=_
   rw[mvar M (by simp) (allL_val h1)];rfl
  exact Bt_not ht
 refine⟨l1,?_⟩
 unfold midS
 refine(Ssl_next e0).trans ?_
 exact Ssl_ret ((S_if hb).trans (Ssl_ret (S_ret (mvar M (by simp) (allL_own h1r)))))
omit M in
theorem filter_map_cur(hs:List Addr)(cur:Addr→List Str):(hs.map cur).filter (fun s=> !s.isEmpty)=(hs.filter fun a=> !(cur a).isEmpty).map cur:=by
 rw[List.filter_map];rfl
theorem merge_run(hpos:((p 44).endLine==(p 46).line)=true):∀(m:Nat) (hs:List Addr) (cur:Addr→List Str) (xs out:List Str),mergeP m (hs.map cur)=some out→hs.Nodup→(∀a,a∉hs→cur a=[])→hs.length≤1000→(∀a∈hs,(cur a).length≤1000)→xs.length+m≤1000→
  ∃N,C3Run (ev fns glob (n+10)) sc (midS p) hs cur xs (xs++out) N
 |0,hs,cur,xs,out,h,_,_,_,_,_=>by cases h
 |m+1,hs,cur,xs,out,h,hn,hz,hlen,hcl,hx=>by
  have hlim:lim=1000000:=rfl
  unfold mergeP at h
  dsimp only at h
  rw[filter_map_cur] at h
  by_cases he:hs.filter (fun a=> !(cur a).isEmpty)=[]
  ·rw[he] at h
   cases h
   obtain⟨l',e⟩:=m_end (fns:=fns) (glob:=glob) (n:=n) (p:=p) (xs:=xs) M hlen hcl he
   refine⟨0,?_⟩
   rw[List.append_nil]
   refine .ret e fun a=> ?_
   by_cases ha:a∈hs
   ·cases hc:cur a with
    |nil=>rfl
    |cons x r=>
     have:a∈hs.filter (fun a=> !(cur a).isEmpty):=zfil.mpr ⟨ha,by rw[hc];rfl⟩
     rw[he] at this;cases this
   ·exact hz a ha
  ·have hemp:((hs.filter fun a=> !(cur a).isEmpty).map cur).isEmpty=false:=by
    cases hq:hs.filter (fun a=> !(cur a).isEmpty) with
    |nil=>exact absurd hq he
    |cons a r=>rfl
   rw[hemp] at h
   simp only[Bool.false_eq_true,if_false] at h
   cases hp:pickHead ((hs.filter fun a=> !(cur a).isEmpty).map cur) ((hs.filter fun a=> !(cur a).isEmpty).map cur) with
   |none=>rw[hp] at h;cases h
   |some c=>
    rw[hp] at h
    obtain⟨out',h1,rfl⟩:=Option.map_eq_some_iff.mp h
    obtain⟨l',e,e1,e2,e3⟩:=m_round (fns:=fns) (glob:=glob) (n:=n) (p:=p) (xs:=xs) M hlen hcl kO hpos he hp
    have hnl:(hs.filter fun a=> !(cur a).isEmpty).Nodup:=hn.filter _
    have hmem:∀a∈hs.filter (fun a=> !(cur a).isEmpty),a∈hs∧cur a≠[]:=fun a ha=>by
     obtain⟨g1,g2⟩:=zfil.mp ha
     refine⟨g1,fun e=> ?_⟩
     rw[e] at g2;cases g2
    have hout:∀a,a∉hs.filter (fun a=> !(cur a).isEmpty)→cur a=[]:=fun a ha=>by
     by_cases hm:a∈hs
     ·cases hc:cur a with
      |nil=>rfl
      |cons x r=>exact absurd (zfil.mpr ⟨hm,by rw[hc];rfl⟩) ha
     ·exact hz a hm
    have hle:(hs.filter fun a=> !(cur a).isEmpty).length≤hs.length:=List.length_filter_le _ _
    generalize hlv:hs.filter (fun a=> !(cur a).isEmpty)=live at *
    have hmap:live.map (dropC c live cur)=(live.map cur).map fun s=>if s.head? =some c then s.tail else s:=by
     rw[List.map_map]
     refine List.map_congr_left fun a ha=> ?_
     show dropC c live cur a=_
     unfold dropC
     by_cases g:(cur a).head? =some c
     ·rw[if_pos ⟨ha,g⟩];simp[g]
     ·rw[if_neg fun h=>g h.2];simp[g]
    rw[←hmap] at h1
    have hdrop:∀a,(dropC c live cur a).length≤(cur a).length:=fun a=>by
     unfold dropC
     split
     ·rw[List.length_tail];omega
     ·omega
    obtain⟨N,run⟩:=merge_run hpos m live (dropC c live cur) (xs++[c]) out' h1 hnl (fun a ha=>by
     unfold dropC
     rw[if_neg fun h=>ha h.1]
     exact hout a ha) kO (fun a ha=>znT (hdrop a) (hcl a (hmem a ha).1)) (by simp;omega)
    refine⟨N+1,.turn e e1 e2 e3 he (fun a ha=>(hmem a ha).1) hnl (fun a ha=>⟨(hmem a ha).2,by have:=hcl a (hmem a ha).1;omega⟩) ?_⟩
    rw[List.append_assoc] at run
    exact run
end
theorem curOf_map:∀(hs:List Addr) (xss:List (List Str)),hs.Nodup→hs.length=xss.length→hs.map (curOf hs xss)=xss
 |[],[],_,_=>rfl
 |a::hs,x::xss,hn,hl=>by
  obtain⟨h1,h2⟩:=znco.mp hn
  have ih:=curOf_map hs xss h2 (by simpa using hl)
  rw[List.map_cons]
  congr 1
  ·unfold curOf
   simp
  ·refine Eq.trans (List.map_congr_left fun b hb=> ?_) ih
   have hne:(b==a)=false:=by
    rw[beq_eq_false_iff_ne]
    rintro rfl
    exact h1 hb
   unfold curOf
   rw[List.zip_cons_cons,List.lookup_cons,hne]
theorem curOf_out{hs:List Addr}{xss:List (List Str)}{a:Addr}(h:a∉hs):curOf hs xss a=[]:=by
 unfold curOf
 have:(hs.zip xss).lookup a=none:=by
  rw[List.lookup_eq_none_iff]
  intro p hp
  have:=(List.of_mem_zip hp).1
  simp only[bne_iff_ne,ne_eq]
  rintro rfl
  exact h this
 rw[this];rfl
def law1:Fn:=fnAt Challenge.pw_oy0159_01 "law"
abbrev sc1:Scope:=law1.scope
abbrev ls1(i:Nat):Stmt:=stAt law1.body i
def pickI(xs:List Int)(lo hi st:Option Int):List Int:=(sliceRange (sliceBounds lo hi st xs.length).1 (sliceBounds lo hi st xs.length).2.1 (sliceBounds lo hi st xs.length).2.2).filterMap (xs[·]?)
theorem pick_map(xs:List Int)(lo hi st:Option Int):pick (xs.map .int) lo hi st=(pickI xs lo hi st).map .int:=by
 unfold pick pickI
 rw[List.length_map,List.map_filterMap]
 congr 1
 funext i
 rw[List.getElem?_map]
section
variable{fns:List (Str×Fn)}{glob:List (Str×D)}{n:Nat}{l:LocB}
theorem E_slice3{k:Bool}{sc:Scope}{lp:Loc}{a e1 e3:Expr}{p p1:Pos}{ds:List D}{i j:Int}(h1:(ev fns glob n).E k sc lp a=some (.list ds))(h2:(ev fns glob n).E k sc lp e1=some (.int i))(h3:(ev fns glob n).E k sc lp e3=some (.int j))(hj:j≠0)(hl:ds.length≤lim):
  (ev fns glob (n+1)).E k sc lp (.Subscript a (.Slice (some e1) none (some e3) p1) p)=some (.list (pick ds (some i) none (some j))):=by
 show stepE fns glob (ev fns glob n) k sc lp (.Subscript a (.Slice (some e1) none (some e3) p1) p)=_
 unfold stepE partD;dsimp only
 rw[h1,h2,h3]
 show (if (some j:Option Int)≠some 0∧ds.length≤lim then some (D.list (pick ds (some i) none (some j))) else none)=_
 rw[if_pos ⟨by simpa using hj,hl⟩]
def ownL:List Int:=[259,193,84,295,133,64076]
def numP(ns:List Int)(k:Nat):Int:=((pickI (ns.take 60) (some (k:Int)) none (some 6)).sum+ownL.getD k 0) % 1572864
def numsP(ns:List Int):List Int:=(List.range 6).map (numP ns)
theorem st0{ns:List Int}(h:l "script"=some (.val (.list (ns.map .int))))(hl:ns.length≤1000):(ev [] glob (n+20)).S true sc1 l (ls1 0)=some (.next,setL l "taken" (.val (.list ((ns.take 60).map .int)))):=by
 have hlim:lim=1000000:=rfl
 refine S_assign ?_ kR kR
 refine(E_to (i:=60) (ds:=ns.map .int) (E_name kR kR (purL_val h)) kR (by simp;omega)).trans ?_
 rw[List.map_take]
theorem st1:(ev [] glob (n+20)).S true sc1 l (ls1 1)=some (.next,setL l "own" (.val (.list (ownL.map .int)))):=
 S_assign kR kR kR
theorem st2{ns:List Int}(h:l "taken"=some (.val (.list ((ns.take 60).map .int))))(h2:l "own"=some (.val (.list (ownL.map .int)))):(ev [] glob (n+20)).S true sc1 l (ls1 2)=some (.next,setL l "numbers" (.val (.list ((numsP ns).map .int)))):=by
 have hlim:lim=1000000:=rfl
 have ht:(ns.take 60).length≤60:=by rw[List.length_take];omega
 show (ev [] glob (n+20)).S true sc1 l (.Assign [_] (.ListComp (.BinOp (.BinOp (.Call (.Name _ _) [.Subscript _ _ _] [] _) _ (.Subscript _ _ _) _) _ _ _) _ _ _) _)=_
 refine S_assign ((comp0 (fun k:Nat=> .int (k:Int)) (fun k=> .int (numP ns k)) (List.range 6) kR kR kR ?_ (by simp;omega)).trans ?_) kR kR
 ·intro k hk
  have hk:=zran.mp hk
  refine E_bin (x:= .int ((pickI (ns.take 60) (some (k:Int)) none (some 6)).sum+ownL.getD k 0)) (y:= .int 1572864) (E_bin (x:= .int (pickI (ns.take 60) (some (k:Int)) none (some 6)).sum) (y:= .int (ownL.getD k 0)) (E_builtin1 (x:= .list ((pickI (ns.take 60) (some (k:Int)) none (some 6)).map .int)) kR kR kD kD kR kR ((E_slice3 (i:=(k:Int)) (j:=6) (ds:=(ns.take 60).map .int) (E_name kR kR ?_) kR kR kD (by simp;omega)).trans ?_) (sum_ints _)) (E_item kR (x:= .list (ownL.map .int)) (y:= .int (k:Int)) (E_name kR kR ?_) kR (item_nat ?_ kD)) kR) kR (mod_val kO)
  ·exact(purL_val h:purL l "taken"=_)
  ·rw[pick_map]
  ·exact(purL_val h2:purL l "own"=_)
  ·exact getD_map (f:=D.int) (d:=0) hk
 ·unfold numsP
  rw[List.map_map];rfl
theorem numsP_len(ns:List Int):(numsP ns).length=6:=by simp[numsP]
end
def unitsL:List Int:=[256,8,1024,2]
def cmP(x:Int):Int:=(((List.range 12).filter fun k=> !decide ((2:Int) ^ k∈unitsL)&&bitZ x k).map fun k=>(2:Int) ^ k).sum
def uP(x:Int):Int:=(((List.range 4).filter fun k=>bitZ x k).map fun k=>unitsL.getD k 0).sum
def drP(xs:List Int)(k:Nat):Int:=cmP (xs.getD 5 0)+uP (xs.getD k 0)
def moP(xs:List Int)(k:Nat):Int:=drP xs k+4096 * (xs.getD k 0 / 16 % 24 - 8)
abbrev drsP(xs:List Int):List Int:=(List.range 5).map (drP xs)
abbrev mosP(xs:List Int):List Int:=(List.range 5).map (moP xs)
abbrev spP(xs:List Int)(k:Nat):List Str:=oddP k (bitZ (xs.getD 5 0 / 4096) k)
section
variable{n:Nat}{l:LocB}{xs:List Int}
theorem st4:(ev fns1 glob1 (n+30)).S true sc1 l (ls1 4)=some (.next,setL l "units" (.val (.list (unitsL.map .int)))):=
 S_assign kR kR kR
theorem E_num{m k:Nat}{lp:Loc}{sc:Scope}{a b:Expr}{p:Pos}{kk:Bool}(hb:(match b with| .Slice .. =>false|_=>true)=true)(hn:(ev fns1 glob1 m).E kk sc lp a=some (.list (xs.map .int)))(hk:(ev fns1 glob1 m).E kk sc lp b=some (.int (k:Int)))(hx:xs.length=6)(hk6:k<6):(ev fns1 glob1 (m+1)).E kk sc lp (.Subscript a b p)=some (.int (xs.getD k 0)):=by
 have hlim:lim=1000000:=rfl
 exact E_item hb hn hk (item_nat (getD_map (f:=D.int) (d:=0) kO) (by simp;omega))
theorem st5(hx:xs.length=6)(h1:l "units"=some (.val (.list (unitsL.map .int))))(h2:l "numbers"=some (.val (.list (xs.map .int)))):(ev fns1 glob1 (n+30)).S true sc1 l (ls1 5)=some (.next,setL l "common" (.val (.int (cmP (xs.getD 5 0))))):=by
 have hlim:lim=1000000:=rfl
 show (ev fns1 glob1 (n+30)).S true sc1 l (.Assign [_] (.Call (.Name _ _) [.ListComp _ _ _ _] [] _) _)=_
 refine S_assign (E_builtin1 (x:= .list ((((List.range 12).filter fun k=> !decide ((2:Int) ^ k∈unitsL)&&bitZ (xs.getD 5 0) k).map fun k=>(2:Int) ^ k).map .int)) kR kR kD kD kR kR ?_ (sum_ints _)) kR kR
 refine(comp1 (fun k:Nat=> .int (k:Int)) (fun k=> !decide ((2:Int) ^ k∈unitsL)&&bitZ (xs.getD 5 0) k) (fun k=> .int ((2:Int) ^ k)) (List.range 12) kR kR kR ?_ ?_ (by simp;omega)).trans ?_
 ·intro k hk
  have hk:=zran.mp hk
  refine T_one (Bt_and (Bt_cmp kR (x:= .int ((2:Int) ^ k)) (y:= .list (unitsL.map .int)) (E_bin kR kR (pow2_val kO)) (E_name kR kR ?_) (Faith.int.notIn kO _ _)) (T_bit (E_num (k:=5) kR (E_name kR kR ?_) kR hx kO) kR kO))
  ·exact(purL_val h1:purL l "units"=_)
  ·exact(purL_val h2:purL l "numbers"=_)
 ·intro k hk _
  have hk:=zran.mp hk
  exact E_bin kR kR (pow2_val kO)
 ·rw[List.map_map];rfl
theorem st6(hx:xs.length=6)(h1:l "units"=some (.val (.list (unitsL.map .int))))(h2:l "numbers"=some (.val (.list (xs.map .int))))(h3:l "common"=some (.val (.int (cmP (xs.getD 5 0))))):(ev fns1 glob1 (n+30)).S true sc1 l (ls1 6)=some (.next,setL l "drawn" (.val (.list ((drsP xs).map .int)))):=by
 have hlim:lim=1000000:=rfl
 show (ev fns1 glob1 (n+30)).S true sc1 l (.Assign [_] (.ListComp (.BinOp _ _ (.Call (.Name _ _) [.ListComp _ _ _ _] [] _) _) _ _ _) _)=_
 refine S_assign ((comp0 (fun k:Nat=> .int (k:Int)) (fun k=> .int (drP xs k)) (List.range 5) kR kR kR ?_ (by simp;omega)).trans ?_) kR kR
 ·intro k hk
  have hk:=zran.mp hk
  refine E_bin (x:= .int (cmP (xs.getD 5 0))) (y:= .int (uP (xs.getD k 0))) (E_name kR kR ?_) (E_builtin1 (x:= .list ((((List.range 4).filter fun j=>bitZ (xs.getD k 0) j).map fun j=>unitsL.getD j 0).map .int)) kR kR kD kD kR kR ?_ (sum_ints _)) kR
  ·exact(purL_val h3:purL l "common"=_)
  ·refine(comp1 (fun j:Nat=> .int (j:Int)) (fun j=>bitZ (xs.getD k 0) j) (fun j=> .int (unitsL.getD j 0)) (List.range 4) kR kR kR ?_ ?_ (by simp;omega)).trans ?_
   ·intro j hj
    have hj:=zran.mp hj
    exact T_one (T_bit (E_num (k:=k) kR (E_name kR kR (purL_val h2:purL l "numbers"=_)) kR hx kO) kR kO)
   ·intro j hj _
    have hj:=zran.mp hj
    exact E_item kR (x:= .list (unitsL.map .int)) (y:= .int (j:Int)) (E_name kR kR (purL_val h1:purL l "units"=_)) kR (item_nat (getD_map (f:=D.int) (d:=0) hj) kD)
   ·rw[List.map_map];rfl
 ·rw[List.map_map];rfl
theorem st7(hx:xs.length=6)(h2:l "numbers"=some (.val (.list (xs.map .int))))(h3:l "drawn"=some (.val (.list ((drsP xs).map .int)))):(ev fns1 glob1 (n+30)).S true sc1 l (ls1 7)=some (.next,setL l "modes" (.val (.list ((mosP xs).map .int)))):=by
 have hlim:lim=1000000:=rfl
 show (ev fns1 glob1 (n+30)).S true sc1 l (.Assign [_] (.ListComp (.BinOp _ _ (.BinOp _ _ (.BinOp (.BinOp (.BinOp _ _ _ _) _ _ _) _ _ _) _) _) _ _ _) _)=_
 refine S_assign ((comp0 (fun k:Nat=> .int (k:Int)) (fun k=> .int (moP xs k)) (List.range 5) kR kR kR ?_ (by simp;omega)).trans ?_) kR kR
 ·intro k hk
  have hk:=zran.mp hk
  refine E_bin (x:= .int (drP xs k)) (y:= .int (4096 * (xs.getD k 0 / 16 % 24 - 8))) (E_item kR (x:= .list ((drsP xs).map .int)) (y:= .int (k:Int)) (E_name kR kR (purL_val h3:purL l "drawn"=_)) kR (item_nat ?_ (by simp[drsP];omega))) (E_bin (x:= .int 4096) (y:= .int (xs.getD k 0 / 16 % 24 - 8)) kR (E_bin (x:= .int (xs.getD k 0 / 16 % 24)) (y:= .int 8) (E_bin (x:= .int (xs.getD k 0 / 16)) (y:= .int 24) (E_bin (x:= .int (xs.getD k 0)) (y:= .int 16) (E_num (k:=k) kR (E_name kR kR (purL_val h2:purL l "numbers"=_)) kR hx kO) kR (div_val kO kO)) kR (mod_val kO)) kR kR) kR) kR
  rw[List.map_map,List.getElem?_map,List.getElem?_range hk];rfl
 ·rw[List.map_map];rfl
theorem st8:(ev fns1 glob1 (n+30)).S true sc1 l (ls1 8)=some (.next,setL l "odd" (.val (.list (odd4.map strsD)))):=
 S_assign kR kR kR
theorem st9(hx:xs.length=6)(h2:l "numbers"=some (.val (.list (xs.map .int))))(h3:l "odd"=some (.val (.list (odd4.map strsD)))):(ev fns1 glob1 (n+30)).S true sc1 l (ls1 9)=some (.next,setL l "spoiled" (.val (.list ([spP xs 0,spP xs 1,spP xs 2,spP xs 3,[]].map strsD)))):=by
 have hlim:lim=1000000:=rfl
 show (ev fns1 glob1 (n+30)).S true sc1 l (.Assign [_] (.BinOp (.ListComp (.IfExp _ _ _ _) _ _ _) _ _ _) _)=_
 refine S_assign (E_bin (x:= .list ((List.range 4).map fun k=>strsD (spP xs k))) (y:= .list [.list []]) (comp0 (fun k:Nat=> .int (k:Int)) (fun k=>strsD (spP xs k)) (List.range 4) kR kR kR ?_ (by simp;omega)) kR ((add_lists (by simp;omega)).trans ?_)) kR kR
 ·intro k hk
  have hk:=zran.mp hk
  refine E_ifexp (c:=bitZ (xs.getD 5 0 / 4096) k) (T_bit (E_bin (x:= .int (xs.getD 5 0)) (y:= .int 4096) (E_num (k:=5) kR (E_name kR kR (purL_val h2:purL l "numbers"=_)) kR hx kO) kR (div_val kO kO)) kR kO) ?_
  unfold spP oddP
  cases bitZ (xs.getD 5 0 / 4096) k with
  |false=>kernel_rfl
  |true=>exact E_item kR (x:= .list (odd4.map strsD)) (y:= .int (k:Int)) (E_name kR kR (purL_val h3:purL l "odd"=_)) kR (item_nat (getD_map hk) kD)
 ·rfl
end
theorem sum_filter_le{α:Type}(f:α→Int)(t u:α→Bool):∀xs:List α,(∀x∈xs,0≤f x)→(∀x∈xs,t x=true→u x=true)→0≤((xs.filter t).map f).sum∧((xs.filter t).map f).sum≤((xs.filter u).map f).sum
 |[],_,_=>by simp
 |x::xs,h0,h1=>by
  obtain⟨i1,i2⟩:=sum_filter_le f t u xs (fun y hy=>h0 y (zmC _ hy)) fun y hy=>h1 y (zmC _ hy)
  have hx:=h0 x zmS
  have hx1:=h1 x zmS
  cases ht:t x with
  |true=>
   have hu:=hx1 ht
   rw[List.filter_cons_of_pos ht,List.filter_cons_of_pos hu,List.map_cons,List.map_cons,List.sum_cons,List.sum_cons]
   omega
  |false=>
   rw[List.filter_cons_of_neg (by simp[ht])]
   cases hu:u x with
   |true=>
    rw[List.filter_cons_of_pos hu,List.map_cons,List.sum_cons]
    omega
   |false=>
    rw[List.filter_cons_of_neg (by simp[hu])]
    exact⟨i1,i2⟩
theorem cmP_lt(x:Int):0≤cmP x∧cmP x≤2805:=by
 have h:=sum_filter_le (fun k:Nat=>(2:Int) ^ k) (fun k=> !decide ((2:Int) ^ k∈unitsL)&&bitZ x k) (fun k=> !decide ((2:Int) ^ k∈unitsL)) (List.range 12) (fun k _=>Int.le_of_lt (Int.pow_pos kO)) (fun k _ h=>by
  rw[Bool.and_eq_true] at h;exact h.1)
 have e:(((List.range 12).filter fun k=> !decide ((2:Int) ^ k∈unitsL)).map fun k=>(2:Int) ^ k).sum=2805:=by decide+kernel
 rw[e] at h
 exact h
theorem uP_lt(x:Int):0≤uP x∧uP x≤1290:=by
 have h:=sum_filter_le (fun k:Nat=>unitsL.getD k 0) (fun k=>bitZ x k) (fun _=>true) (List.range 4) kD (fun _ _ _=>rfl)
 have e:(((List.range 4).filter fun _=>true).map fun k=>unitsL.getD k 0).sum=1290:=by decide+kernel
 rw[e] at h
 exact h
theorem drP_lt(xs:List Int)(k:Nat):0≤drP xs k∧drP xs k≤4095:=by
 have h1:=cmP_lt (xs.getD 5 0)
 have h2:=uP_lt (xs.getD k 0)
 unfold drP;omega
theorem moP_lt(xs:List Int)(k:Nat):(moP xs k).natAbs<10 ^ 9:=by
 have h:=drP_lt xs k
 have:(10:Nat) ^ 9=1000000000:=by decide
 unfold moP;omega
theorem moP_mod(xs:List Int)(k:Nat):moP xs k % 4096=drP xs k:=by
 have h:=drP_lt xs k
 unfold moP;omega
theorem Faith.pm:Faith pm 1 where
 like:=fun a b=>by simp[D.like,D.likes]
 beq:=fun a b=>by
  simp only[D.beq,D.beqs,Bool.and_true]
  rw[Bool.eq_iff_iff];simp
 dep:=fun a=>by simp[D.dep,D.deps]
theorem told_same{a:List (Str×D)}{ms:List Int}{xs:List Str}(h:a.map (·.2)=ms.map Mine.pm):cmpD .NotEq (.tup [.dictS a,.list [],.list (xs.map .str)]) (.tup [.dictS a,.list [],.list (xs.map .str)])=some false:=by
 show (if (D.like (.tup [.dictS a,.list [],.list (xs.map .str)]) (.tup [.dictS a,.list [],.list (xs.map .str)])&&decide (D.dep (.tup [.dictS a,.list [],.list (xs.map .str)])≤20))=true then some (!D.beq (.tup [.dictS a,.list [],.list (xs.map .str)]) (.tup [.dictS a,.list [],.list (xs.map .str)])) else toldNe (.tup [.dictS a,.list [],.list (xs.map .str)]) (.tup [.dictS a,.list [],.list (xs.map .str)]))=_
 have e:D.like (.tup [.dictS a,.list [],.list (xs.map .str)]) (.tup [.dictS a,.list [],.list (xs.map .str)])=false:=by simp[D.like,D.likes]
 rw[e]
 show (if a.map (·.1)=a.map (·.1)∧D.likes (a.map (·.2)) (a.map (·.2))=true∧D.like (.list []) (.list [])=true∧D.like (.list (xs.map .str)) (.list (xs.map .str))=true∧D.deps (a.map (·.2))≤20∧D.dep (.list [])≤20∧D.dep (.list (xs.map .str))≤20∧D.beqs (a.map (·.2)) (a.map (·.2))=true∧D.beq (.list []) (.list [])=true∧D.beq (.list (xs.map .str)) (.list (xs.map .str))=true then some false else none)=_
 rw[if_pos]
 have f:=Faith.pm
 have g:=Faith.strs
 rw[h]
 refine⟨rfl,f.likes _ _,by simp[D.like,D.likes],g.like xs xs,znT (f.deps _) kO,by simp[D.dep,D.deps],znT (g.dep xs) kO,by rw[f.beqs];simp,by simp[D.beq,D.beqs],?_⟩
 exact(g.beq xs xs).trans (by simp)
section
variable{fns:List (Str×Fn)}{glob:List (Str×D)}{k:Bool}{sc:Scope}{lp:Loc}{a b c:Expr}{x y z:D}{m:Nat}{kd:Nat}{p:Pos}
theorem E_tup3(hs:PySem.W.isStarred a=false)(hs':PySem.W.isStarred b=false)(hs'':PySem.W.isStarred c=false)(h:(ev fns glob m).E k sc lp a=some x)(h':(ev fns glob m).E k sc lp b=some y)(h'':(ev fns glob m).E k sc lp c=some z):(ev fns glob (m+1)).E k sc lp (.Tuple [a,b,c] kd p)=some (.tup [x,y,z]):=by
 show (Ess (ev fns glob m) k sc lp [a,b,c]).bind (fun ds=>if ds.length≤lim then some (D.tup ds) else none)=_
 unfold Ess Ess Ess
 rw[hs,hs',hs'']
 show (((ev fns glob m).E k sc lp a).bind fun d=>(((ev fns glob m).E k sc lp b).bind fun d=>(((ev fns glob m).E k sc lp c).bind fun d=>(Ess (ev fns glob m) k sc lp []).bind fun ds=>some (d::ds)).bind fun ds=>some (d::ds)).bind fun ds=>some (d::ds)).bind (fun ds=>if ds.length≤lim then some (D.tup ds) else none)=_
 rw[h,h',h''];rfl
theorem E_tup2(hs:PySem.W.isStarred a=false)(hs':PySem.W.isStarred b=false)(h:(ev fns glob m).E k sc lp a=some x)(h':(ev fns glob m).E k sc lp b=some y):(ev fns glob (m+1)).E k sc lp (.Tuple [a,b] kd p)=some (.tup [x,y]):=by
 show (Ess (ev fns glob m) k sc lp [a,b]).bind (fun ds=>if ds.length≤lim then some (D.tup ds) else none)=_
 unfold Ess Ess
 rw[hs,hs']
 show (((ev fns glob m).E k sc lp a).bind fun d=>(((ev fns glob m).E k sc lp b).bind fun d=>(Ess (ev fns glob m) k sc lp []).bind fun ds=>some (d::ds)).bind fun ds=>some (d::ds)).bind (fun ds=>if ds.length≤lim then some (D.tup ds) else none)=_
 rw[h,h'];rfl
end
abbrev toldD(xs:List Int):D:= .tup [.dictS (bookP (moP xs 0) (moP xs 1) (moP xs 2) (moP xs 3) (moP xs 4)),.list [],.list ((refP (bitZ (xs.getD 5 0 / 4096) 0) (bitZ (xs.getD 5 0 / 4096) 1) (bitZ (xs.getD 5 0 / 4096) 2) (bitZ (xs.getD 5 0 / 4096) 3)).map .str)]
abbrev refL(xs:List Int):List Str:=refP (bitZ (xs.getD 5 0 / 4096) 0) (bitZ (xs.getD 5 0 / 4096) 1) (bitZ (xs.getD 5 0 / 4096) 2) (bitZ (xs.getD 5 0 / 4096) 3)
abbrev talkL(xs:List Int):List Str:=talkP (moP xs 0) (moP xs 1) (moP xs 2) (moP xs 3) (moP xs 4) (spP xs 0) (spP xs 1) (spP xs 2) (spP xs 3) []
section
variable{n:Nat}{l:LocB}{xs:List Int}
def talkE:Stmt→Expr
 | .Assign _ (.Call _ [_,e,_] _ _) _=>e
 |_=> .Constant .none 0 ⟨0,0,0,0⟩
theorem st10e(h1:l "names"=some (.val (strsD nm5)))(h2:l "modes"=some (.val (.list ((mosP xs).map .int))))(h3:l "spoiled"=some (.val (.list ([spP xs 0,spP xs 1,spP xs 2,spP xs 3,[]].map strsD)))):(ev fns1 glob1 (n+30)).E true sc1 (purL l) (talkE (ls1 10))=some (strsD (talkL xs)):=by
 have o:∀k b,k<4→(oddP k b).length≤100:=fun k b h=>by have:=oddP_len k b h;omega
 refine E_call3 (x:=strsD nm5) (y:= .list ((mosP xs).map .int)) (z:= .list ([spP xs 0,spP xs 1,spP xs 2,spP xs 3,[]].map strsD)) kR kR kD kD kR kR kR kR (E_name kR kR (purL_val h1)) (E_name kR kR (purL_val h2)) (E_name kR kR (purL_val h3)) ?_
 exact talk_val (n:=n+4) (moP_lt xs 0) (moP_lt xs 1) (moP_lt xs 2) (moP_lt xs 3) (moP_lt xs 4) (o _ _ kO) (o _ _ kO) (o _ _ kO) (o _ _ kO) (by simp)
theorem st11(h3:l "spoiled"=some (.val (.list ([spP xs 0,spP xs 1,spP xs 2,spP xs 3,[]].map strsD)))):(ev fns1 glob1 (n+30)).S true sc1 l (ls1 11)=some (.next,setL l "refused" (.val (strsD (refL xs)))):=by
 have hlim:lim=1000000:=rfl
 have o0:(spP xs 0).length≤2:=oddP_len 0 (bitZ (xs.getD 5 0 / 4096) 0) kO
 have o1:(spP xs 1).length≤2:=oddP_len 1 (bitZ (xs.getD 5 0 / 4096) 1) kO
 have o2:(spP xs 2).length≤2:=oddP_len 2 (bitZ (xs.getD 5 0 / 4096) 2) kO
 have o3:(spP xs 3).length≤2:=oddP_len 3 (bitZ (xs.getD 5 0 / 4096) 3) kO
 show (ev fns1 glob1 (n+30)).S true sc1 l (.Assign [_] (.BinOp _ _ (.ListComp _ _ _ _) _) _)=_
 have e:([spP xs 0,spP xs 1,spP xs 2,spP xs 3,[]].flatMap fun q:List Str=>if true then (q.filter fun _=>true).map D.str else [])=(spP xs 0++spP xs 1++spP xs 2++spP xs 3).map .str:=by
  simp[List.filter_eq_self.mpr]
 refine S_assign (E_bin (x:=strsD ["no 226 all told"]) (y:=strsD (spP xs 0++spP xs 1++spP xs 2++spP xs 3)) kR ((comp2 strsD (fun _=>true) (fun q:List Str=>q) .str (fun _ _=>true) (fun _ p=> .str p) [spP xs 0,spP xs 1,spP xs 2,spP xs 3,[]] (itL (E_name kR kR (purL_val h3))) kR kR (fun q hq=>by kernel_rfl) (fun q hq=>by kernel_rfl) (fun q hq _=>by kernel_rfl) (fun q hq _ p hp=>by kernel_rfl) (fun q hq _ p hp _=>by kernel_rfl) ?_).trans ?_) ?_) kR kR
 ·rw[e];simp;omega
 ·rw[e];rfl
 ·refine(add_lists (by simp;omega)).trans ?_
  rw[←List.map_append]
  show some (strsD _)=_
  congr 2
theorem comp_get{csc:Scope}{lp:Loc}{x y:Str}{d:D}(h:csc.names.lookup x=some .free)(hne:x≠y):setL (compLoc csc lp) y d x=lp x:=by
 rw[setL_ne hne]
 unfold compLoc
 rw[if_pos h]
theorem book_ms(xs:List Int):(bookP (moP xs 0) (moP xs 1) (moP xs 2) (moP xs 3) (moP xs 4)).map (·.2)=(mosP xs).map Mine.pm:=rfl
theorem st12(h1:l "names"=some (.val (strsD nm5)))(h2:l "modes"=some (.val (.list ((mosP xs).map .int))))(h3:l "refused"=some (.val (strsD (refL xs))))(h4:l "told"=some (.val (toldD xs))):(ev fns1 glob1 (n+30)).S true sc1 l (ls1 12)=some (.next,l):=by
 have hlim:lim=1000000:=rfl
 show (ev fns1 glob1 (n+30)).S true sc1 l (.If (.Compare _ [_] [.Tuple [.DictComp _ (.Tuple [_,.Subscript _ _ _] _ _) _ _ _,_,_] _ _] _) _ [] _)=_
 refine(S_if (c:=false) (Bt_cmp kR (x:=toldD xs) (y:=toldD xs) (E_name kR kR (allL_val h4)) (E_tup3 kR kR kR (dcomp (fun k:Nat=> .int (k:Int)) (fun _=>true) (fun k=>nm5.getD k "") (fun k=>Mine.pm (moP xs k)) (List.range 5) kR kR kR (fun q hq=>by kernel_rfl) ?_ ?_ (by simp;omega) kR) kR (E_name kR kR (allL_val h3))) (told_same (book_ms xs)))).trans Ssl_nil
 ·intro k hk _
  have hk:=zran.mp hk
  exact E_item kR (x:=strsD nm5) (y:= .int (k:Int)) (E_name kR kR (allL_val h1:allL l "names"=_)) kR (item_nat (getD_map hk) kD)
 ·intro k hk _
  have hk:=zran.mp hk
  refine E_tup2 kR kR kR (E_item kR (x:= .list ((mosP xs).map .int)) (y:= .int (k:Int)) (E_name kR kR (allL_val h2:allL l "modes"=_)) kR (item_nat ?_ (by simp[mosP];omega)))
  rw[List.map_map,List.getElem?_map,List.getElem?_range hk];rfl
def nmModes(xs:List Int):List (Str×Int):=[("a\"b",moP xs 0),("",moP xs 1),("z",moP xs 2),("\"",moP xs 3),("\"\"",moP xs 4)]
theorem book_lookup(xs:List Int):∀q∈nmModes xs,(bookP (moP xs 0) (moP xs 1) (moP xs 2) (moP xs 3) (moP xs 4)).lookup q.1=some (Mine.pm q.2):=by
 intro q hq
 simp only[nmModes,List.mem_cons,List.not_mem_nil,or_false] at hq
 rcases hq with rfl|rfl|rfl|rfl|rfl <;> rfl
theorem E_mode{m:Nat}{lp:Loc}{sc:Scope}{kk:Bool}{p1 p2 p3 p4 p5 p6 p7:Pos}{q:Str×Int}(hq:q∈nmModes xs)(v1:isVar (sc.names.lookup ("told":Str))=true)(v2:isVar (sc.names.lookup ("name":Str))=true)(h1:lp "told"=some (toldD xs))(h2:lp "name"=some (.str q.1)):
  (ev fns1 glob1 (m+4)).E kk sc lp (.Subscript (.Subscript (.Subscript (.Name "told" p1) (.Constant (.int 0) 0 p2) p3) (.Name "name" p4) p5) (.Constant (.int 1) 0 p6) p7)=some (.int q.2):=by
 refine E_item (by rfl) (x:=Mine.pm q.2) (y:= .int 1) (E_item (by rfl) (x:= .dictS (bookP (moP xs 0) (moP xs 1) (moP xs 2) (moP xs 3) (moP xs 4))) (y:= .str q.1) (E_item (by rfl) (x:=toldD xs) (y:= .int 0) (E_name kD v1 h1) (by rfl) (by rfl)) (E_name kD v2 h2) ?_) (by rfl) (by rfl)
 exact book_lookup xs q hq
theorem st13(h1:l "names"=some (.val (strsD nm5)))(h4:l "told"=some (.val (toldD xs))):(ev fns1 glob1 (n+30)).S true sc1 l (ls1 13)=some (.next,setL l "rights" (.val (.list ((drsP xs).map .int)))):=by
 have hlim:lim=1000000:=rfl
 show (ev fns1 glob1 (n+30)).S true sc1 l (.Assign [_] (.ListComp (.Call (.Name _ _) [.Subscript (.Subscript (.Subscript _ _ _) _ _) _ _] [] _) _ _ _) _)=_
 refine S_assign ((comp0 (fun q:Str×Int=> .str q.1) (fun q=> .int (Builtin.bitAnd q.2 4095)) (nmModes xs) (itL (E_name kR kR (purL_val h1))) kR kR ?_ (by simp[nmModes];omega)).trans ?_) kR kR
 ·intro q hq
  refine E_call1 (x:= .int q.2) kR kR kD kD kR kR ?_ kR
  refine E_mode (xs:=xs) hq kR kR ?_ ?_
  ·exact(comp_get kR kD).trans (purL_val h4)
  ·kernel_rfl
 ·show some (D.list [.int (Builtin.bitAnd (moP xs 0) 4095),.int (Builtin.bitAnd (moP xs 1) 4095),.int (Builtin.bitAnd (moP xs 2) 4095),.int (Builtin.bitAnd (moP xs 3) 4095),.int (Builtin.bitAnd (moP xs 4) 4095)])=_
  rw[imode_val,imode_val,imode_val,imode_val,imode_val,moP_mod,moP_mod,moP_mod,moP_mod,moP_mod]
  rfl
theorem st14(h1:l "names"=some (.val (strsD nm5)))(h2:l "modes"=some (.val (.list ((mosP xs).map .int))))(h3:l "drawn"=some (.val (.list ((drsP xs).map .int))))(h4:l "told"=some (.val (toldD xs)))(h5:l "rights"=some (.val (.list ((drsP xs).map .int)))):(ev fns1 glob1 (n+30)).S true sc1 l (ls1 14)=some (.next,l):=by
 have hlim:lim=1000000:=rfl
 show (ev fns1 glob1 (n+30)).S true sc1 l (.If (.BoolOp _ [.Compare _ [_] [_] _,.Compare (.ListComp (.Call (.Name _ _) [.Subscript (.Subscript (.Subscript _ _ _) _ _) _ _] [] _) _ _ _) [_] [.ListComp (.Call (.Name _ _) [_] [] _) _ _ _] _] _) _ [] _)=_
 refine(S_if (c:=false) ((Bt_or (c:=false) (e:=false) ((Bt_cmp kR (x:= .list ((drsP xs).map .int)) (y:= .list ((drsP xs).map .int)) (E_name kR kR (allL_val h5)) (E_name kR kR (allL_val h3)) (Faith.int.list.ne kO _ _)).trans (by simp)) ((Bt_cmp kR (x:=strsD ((mosP xs).map listP)) (y:=strsD ((mosP xs).map listP)) ((comp0 (fun q:Str×Int=> .str q.1) (fun q=> .str (modeP q.2)) (nmModes xs) (itL (E_name kR kR (allL_val h1))) kR kR ?_ (by simp[nmModes];omega)).trans ?_) ((comp0 .int (fun m=> .str (listP m)) (mosP xs) (itL (E_name kR kR (allL_val h2))) kR kR ?_ (by simp[mosP];omega)).trans ?_) (Faith.strs.ne kO _ _)).trans (by simp))))).trans Ssl_nil
 ·intro q hq
  exact E_call1 kR kR kD kD kR kR (E_mode hq kR kR ((comp_get kR kD).trans (allL_val h4)) kR) (mode_val q.2)
 ·rw[show (fun q:Str×Int=>D.str (modeP q.2))=fun q=>D.str (listP q.2) from funext fun q=>by rw[mode_eq_list]]
  rfl
 ·intro m hm
  exact E_call1 kR kR kD kD kR kR kR (list_val m)
 ·rw[strsD,List.map_map];rfl
end
section
variable{fns:List (Str×Fn)}{glob:List (Str×D)}{sc:Scope}{lp:Loc}{g s i:Expr}{m:Nat}{pr p:Pos}{k:Bool}
theorem E_reduce3{ds as:List D}{d:D}(hk:sc.names.lookup ("reduce":Str)=some .globalImplicit)(hg:okLam k sc g=true)(hs:PySem.W.isStarred s=false)(hi:PySem.W.isStarred i=false)(h1:(ev fns glob m).E k sc lp s=some (.list ds))(h2:(ev fns glob m).E k sc lp i=some (.list as))(h:foldD (ev fns glob m) lp g (.list as) ds=some d):
  (ev fns glob (m+1)).E k sc lp (.Call (.Name "reduce" pr) [g,s,i] [] p)=some d:=by
 show stepE fns glob (ev fns glob m) k sc lp (.Call (.Name "reduce" pr) [g,s,i] [] p)=_
 unfold stepE;dsimp only
 rw[if_neg (by rw[hk];simp;decide),if_pos rfl,if_neg (by rw[hg,hs,hi];simp),h1,h2]
 exact h
theorem E_reduce2{ds:List D}{a d:D}(hk:sc.names.lookup ("reduce":Str)=some .globalImplicit)(hg:okLam k sc g=true)(hs:PySem.W.isStarred s=false)(h1:(ev fns glob m).E k sc lp s=some (.list (a::ds)))(h:foldD (ev fns glob m) lp g a ds=some d):
  (ev fns glob (m+1)).E k sc lp (.Call (.Name "reduce" pr) [g,s] [] p)=some d:=by
 show stepE fns glob (ev fns glob m) k sc lp (.Call (.Name "reduce" pr) [g,s] [] p)=_
 unfold stepE;dsimp only
 rw[if_neg (by rw[hk];simp;decide),if_pos rfl,if_neg (by rw[hg,hs];simp),h1]
 exact h
theorem applyD_eq{r:Ev}{ps:Arguments}{body:Expr}{scl:Scope}{q:Pos}{as:List D}{l':Loc}(h:bindPL (compLoc scl lp) (ps.args.map (·.arg)) as=some l'):applyD r lp (.Lambda ps body scl q) as=r.E false scl l' body:=by
 show (bindPL (compLoc scl lp) (ps.args.map (·.arg)) as).bind (fun l'=>r.E false scl l' body)=_
 rw[h];rfl
theorem fold_map{r:Ev}{α β:Type}(ea:β→D)(ex:α→D)(step:β→α→β)(Inv:Nat→β→Prop):∀(xs:List α) (j:Nat) (b:β),Inv j b→(∀j' b x,x∈xs→j≤j'→j'<j+xs.length→Inv j' b→applyD r lp g [ea b,ex x]=some (ea (step b x))∧Inv (j'+1) (step b x))→foldD r lp g (ea b) (xs.map ex)=some (ea (xs.foldl step b))
 |[],_,_,_,_=>rfl
 |x::xs,j,b,h,ha=>by
  obtain⟨h1,h2⟩:=ha j b x zmS nL (by simp) h
  show (applyD r lp g [ea b,ex x]).bind (fun a'=>foldD r lp g a' (xs.map ex))=_
  rw[h1]
  exact fold_map ea ex step Inv xs (j+1) (step b x) h2 fun j' b' x' hx hj hj' hI=>ha j' b' x' (zmC _ hx) kO (by simp only[List.length_cons];omega) hI
end
def nmP(k:Nat):Str:=nm5.getD k ""
def leP(xs:List Int)(a b:Nat):Bool:= !decide (a=b)&&decide (Builtin.bitOr (drP xs a) (drP xs b)=drP xs b)
def bothP(xs:List Int):List (Nat×Nat):=(List.range 5).flatMap fun a=>((List.range 5).filter (leP xs a)).map fun b=>(a,b)
def pairsP(xs:List Int):List (Nat×Nat):=(bothP xs).filter fun q=>decide (q.1<q.2)|| !decide (drP xs q.1=drP xs q.2)
def rowsP(xs:List Int):List (Str×Str):=(pairsP xs).map fun q=>(nmP q.1,nmP q.2)
theorem bothP_mem{xs:List Int}{q:Nat×Nat}(h:q∈bothP xs):q.1<5∧q.2<5∧leP xs q.1 q.2=true:=by
 unfold bothP at h
 obtain⟨a,ha,h⟩:=List.mem_flatMap.mp h
 obtain⟨b,hb,rfl⟩:=zmap.mp h
 obtain⟨h1,h2⟩:=zfil.mp hb
 exact⟨zran.mp ha,zran.mp h1,h2⟩
theorem bothP_len(xs:List Int):(bothP xs).length≤25:=by
 unfold bothP
 have h:∀a,(((List.range 5).filter (leP xs a)).map fun b=>(a,b)).length≤5:=fun a=>by
  rw[List.length_map]
  exact znT (List.length_filter_le _ _) (by simp)
 have e:List.range 5=[0,1,2,3,4]:=rfl
 conv=>lhs;arg 1;arg 2;rw[e]
 simp only[List.flatMap_cons,List.flatMap_nil,List.length_append,List.length_nil]
 have h0:=h 0;have h1:=h 1;have h2:=h 2;have h3:=h 3;have h4:=h 4
 omega
theorem pairsP_len(xs:List Int):(pairsP xs).length≤25:=znT (List.length_filter_le _ _) (bothP_len xs)
section
variable{n:Nat}{l:LocB}{xs:List Int}
theorem E_right{m k:Nat}{lp:Loc}{sc:Scope}{a b:Expr}{p:Pos}{kk:Bool}(hb:(match b with| .Slice .. =>false|_=>true)=true)(hn:(ev fns1 glob1 m).E kk sc lp a=some (.list ((drsP xs).map .int)))(hk:(ev fns1 glob1 m).E kk sc lp b=some (.int (k:Int)))(hk5:k<5):(ev fns1 glob1 (m+1)).E kk sc lp (.Subscript a b p)=some (.int (drP xs k)):=by
 have hlim:lim=1000000:=rfl
 refine E_item hb hn hk (item_nat ?_ (by simp[drsP];omega))
 rw[List.map_map,List.getElem?_map,List.getElem?_range hk5];rfl
theorem st15(h5:l "rights"=some (.val (.list ((drsP xs).map .int)))):(ev fns1 glob1 (n+30)).S true sc1 l (ls1 15)=some (.next,setL l "both" (.val (pairsD (bothP xs)))):=by
 have hlim:lim=1000000:=rfl
 have e:((List.range 5).flatMap fun q=>if true then ((List.range 5).filter (leP xs q)).map (fun b=>pairD (q,b)) else [])=(bothP xs).map pairD:=by
  unfold bothP
  rw[List.map_flatMap]
  congr 1
  funext q
  rw[List.map_map];rfl
 show (ev fns1 glob1 (n+30)).S true sc1 l (.Assign [_] (.ListComp _ _ _ _) _)=_
 refine S_assign ((comp2 (fun k:Nat=> .int (k:Int)) (fun _=>true) (fun _=>List.range 5) (fun k:Nat=> .int (k:Int)) (fun a b=>leP xs a b) (fun a b=>pairD (a,b)) (List.range 5) kR kR kR (fun q hq=>by kernel_rfl) (fun q hq=>by kernel_rfl) (fun q hq _=>by kernel_rfl) ?_ (fun q hq _ p hp _=>by kernel_rfl) ?_).trans ?_) kR kR
 ·intro a ha _ b hb
  have ha:=zran.mp ha
  have hb:=zran.mp hb
  refine T_one (Bt_and ((Bt_cmp kR (x:= .int (a:Int)) (y:= .int (b:Int)) kR kR (natFaith.ne kO _ _))) (Bt_cmp kR (x:= .int (Builtin.bitOr (drP xs a) (drP xs b))) (y:= .int (drP xs b)) (E_bin (x:= .int (drP xs a)) (y:= .int (drP xs b)) (E_right (k:=a) kR (E_name kR kR (purL_val h5:purL l "rights"=_)) kR ha) (E_right (k:=b) kR (E_name kR kR (purL_val h5:purL l "rights"=_)) kR hb) kR) (E_right (k:=b) kR (E_name kR kR (purL_val h5:purL l "rights"=_)) kR hb) (Faith.int.eq kO _ _)))
 ·rw[e,List.length_map]
  have:=bothP_len xs;omega
 ·rw[e];rfl
theorem st16(h5:l "rights"=some (.val (.list ((drsP xs).map .int))))(h6:l "both"=some (.val (pairsD (bothP xs)))):(ev fns1 glob1 (n+30)).S true sc1 l (ls1 16)=some (.next,setL l "pairs" (.val (pairsD (pairsP xs)))):=by
 have hlim:lim=1000000:=rfl
 have hb:=bothP_len xs
 show (ev fns1 glob1 (n+30)).S true sc1 l (.Assign [_] (.ListComp _ _ _ _) _)=_
 refine S_assign (comp1p (fun q:Nat×Nat=>(.int (q.1:Int),.int (q.2:Int))) (fun q=>decide (q.1<q.2)|| !decide (drP xs q.1=drP xs q.2)) pairD (bothP xs) (itL (E_name kR kR (purL_val h6))) kR kR kR ?_ (fun q hq _=>by kernel_rfl) kO) kR kR
 intro q hq
 obtain⟨h1,h2,_⟩:=bothP_mem hq
 refine T_one (Bt_or ((Bt_cmp kR (x:= .int (q.1:Int)) (y:= .int (q.2:Int)) kR kR ?_)) (Bt_cmp kR (x:= .int (drP xs q.1)) (y:= .int (drP xs q.2)) (E_right (k:=q.1) kR (E_name kR kR (purL_val h5:purL l "rights"=_)) kR h1) (E_right (k:=q.2) kR (E_name kR kR (purL_val h5:purL l "rights"=_)) kR h2) (Faith.int.ne kO _ _)))
 show some (decide ((q.1:Int)<(q.2:Int)))=_
 congr 1
 rw[Bool.eq_iff_iff,decide_eq_true_eq,decide_eq_true_eq]
 omega
theorem st17(h1:l "names"=some (.val (strsD nm5)))(h6:l "pairs"=some (.val (pairsD (pairsP xs)))):(ev fns1 glob1 (n+30)).S true sc1 l (ls1 17)=some (.next,setL l "rows" (.val (rowsD (rowsP xs)))):=by
 have hlim:lim=1000000:=rfl
 have hb:=pairsP_len xs
 show (ev fns1 glob1 (n+30)).S true sc1 l (.Assign [_] (.ListComp (.List [.Subscript _ _ _,.Subscript _ _ _] _) _ _ _) _)=_
 refine S_assign ((comp1p (fun q:Nat×Nat=>(.int (q.1:Int),.int (q.2:Int))) (fun _=>true) (fun q=>rowD (nmP q.1,nmP q.2)) (pairsP xs) (itL (E_name kR kR (purL_val h6))) kR kR kR (fun q hq=>by kernel_rfl) ?_ kO).trans ?_) kR kR
 ·intro q hq _
  obtain⟨g1,g2,_⟩:=bothP_mem (zfil.mp hq).1
  exact E_list2 kR kR (E_item kR (x:=strsD nm5) (y:= .int (q.1:Int)) (E_name kR kR (purL_val h1:purL l "names"=_)) kR (item_nat (getD_map g1) kD)) (E_item kR (x:=strsD nm5) (y:= .int (q.2:Int)) (E_name kR kR (purL_val h1:purL l "names"=_)) kR (item_nat (getD_map g2) kD))
 ·rw[List.filter_eq_self.mpr fun _ _=>rfl]
  unfold rowsD rowsP
  rw[List.map_map];rfl
end
theorem flat_len{α β:Type}(f:α→List β)(k:Nat):∀xs:List α,(∀x∈xs,(f x).length≤k)→(xs.flatMap f).length≤k * xs.length
 |[],_=>by simp
 |x::xs,h=>by
  have h1:=h x zmS
  have h2:=flat_len f k xs fun y hy=>h y (zmC _ hy)
  rw[List.flatMap_cons,List.length_append,List.length_cons,Nat.mul_succ]
  omega
theorem addP_mem:∀(ones:List (List (Str×Str))) (q:List (List (Str×Str))×List (List Str)) (w:List (Str×Str)),w∈(ones.foldl addP q).1→w∈q.1∨w∈ones
 |[],q,w,h=> .inl h
 |o::ones,q,w,h=>by
  rw[List.foldl_cons] at h
  rcases addP_mem ones (addP q o) w h with h|h
  ·unfold addP at h
   split at h
   ·exact .inl h
   ·rcases zapp.mp h with h|h
    ·exact .inl h
    ·simp at h;subst h;exact .inr zmS
  ·exact .inr (zmC _ h)
theorem joinedP_mem{states:List (List (Str×Str))}{name:Str}{rows:List (Str×Str)}{w:List (Str×Str)}(h:w∈joinedP states name rows):∃s∈states,w∈optsP name rows s:=by
 rcases addP_mem _ _ _ h with h|h
 ·cases h
 ·obtain⟨s,hs,hw⟩:=List.mem_flatMap.mp h
  exact⟨s,hs,hw⟩
theorem joinedP_len{states:List (List (Str×Str))}{name:Str}{rows:List (Str×Str)}(hf:(rows.filter fun q=>q.1==name).length≤5):(joinedP states name rows).length≤6 * states.length:=by
 have h1:=addP_len (states.flatMap (optsP name rows)) ([],[]) rfl
 have h2:=flat_len (optsP name rows) 6 states fun s _=>optsP_len hf
 have:=h1.2
 unfold joinedP
 simp only[List.length_nil] at this
 omega
theorem rows_count(xs:List Int):∀x∈nm5,((rowsP xs).filter fun q=>q.1==x).length≤5:=by
 have h:∀x∈nm5,((bothP xs).filter fun q=>nmP q.1==x).length≤5:=by
  intro x hx
  unfold bothP
  have e:List.range 5=[0,1,2,3,4]:=rfl
  conv=>lhs;arg 1;arg 2;arg 2;rw[e]
  simp only[List.flatMap_cons,List.flatMap_nil,List.filter_append,List.length_append,List.filter_nil,List.length_nil]
  have hb:∀a,((((List.range 5).filter (leP xs a)).map fun b=>(a,b)).filter fun q=>nmP q.1==x).length≤if nmP a==x then 5 else 0:=fun a=>by
   split
   ·refine znT (List.length_filter_le _ _) ?_
    rw[List.length_map]
    exact znT (List.length_filter_le _ _) (by simp)
   ·rename_i hne
    rw[List.filter_eq_nil_iff.mpr]
    ·simp
    ·intro q hq
     obtain⟨b,_,rfl⟩:=zmap.mp hq
     exact hne
  have h0:=hb 0;have h1:=hb 1;have h2:=hb 2;have h3:=hb 3;have h4:=hb 4
  have hs:(if nmP 0==x then 5 else 0)+((if nmP 1==x then 5 else 0)+((if nmP 2==x then 5 else 0)+((if nmP 3==x then 5 else 0)+(if nmP 4==x then 5 else 0))))=5:=by
   clear h0 h1 h2 h3 h4 hb
   revert x
   decide+kernel
  omega
 intro x hx
 unfold rowsP pairsP
 rw[List.filter_map,List.length_map,List.filter_filter]
 refine znT ?_ (h x hx)
 rw[show ((bothP xs).filter fun a=>((fun q:Str×Str=>q.1==x) ∘ fun q=>(nmP q.1,nmP q.2)) a&&(decide (a.1<a.2)|| !decide (drP xs a.1=drP xs a.2)))=((bothP xs).filter fun q=>nmP q.1==x).filter fun q=>decide (q.1<q.2)|| !decide (drP xs q.1=drP xs q.2) by
  rw[List.filter_filter]
  refine List.filter_congr fun q _=> ?_
  exact Bool.and_comm _ _]
 exact List.length_filter_le _ _
def waysP(rows:List (Str×Str)):List (List (Str×Str)):=nm5.foldl (fun made name=>joinedP made name rows) [[]]
section
variable{n:Nat}{l:LocB}{xs:List Int}
theorem st18(h1:l "names"=some (.val (strsD nm5)))(h6:l "rows"=some (.val (rowsD (rowsP xs)))):(ev fns1 glob1 (n+30)).S true sc1 l (ls1 18)=some (.next,setL l "ways" (.val (waysD (waysP (rowsP xs))))):=by
 have hlim:lim=1000000:=rfl
 show (ev fns1 glob1 (n+30)).S true sc1 l (.Assign [_] (.Call (.Name _ _) [.Lambda _ _ _ _,_,_] [] _) _)=_
 refine S_assign (E_reduce3 (ds:=nm5.map .str) (as:=[.list []]) kR kR kR kR (E_name kR kR (purL_val h1)) kR ?_) kR kR
 refine fold_map (ea:=waysD) (ex:= .str) (step:=fun made name=>joinedP made name (rowsP xs)) (Inv:=fun j made=>(j≤5→made.length≤6 ^ j)∧∀w∈made,w.length≤j) nm5 0 [[]] ⟨fun _=>by simp,by simp⟩ ?_
 rintro j made x hx _ hj ⟨i1,i2⟩
 have hj:j<0+5:=hj
 have hm:made.length≤6 ^ 4:=znT (i1 kO) (Nat.pow_le_pow_right kO kO)
 have h64:(6:Nat) ^ 4=1296:=by decide
 have hr:=pairsP_len xs
 have hc:=rows_count xs x hx
 refine⟨(applyD_eq (l':=setL (setL (compLoc _ (purL l)) "name" (.str x)) "made" (waysD made)) rfl).trans ?_,fun h=> ?_,fun w hw=> ?_⟩
 ·refine E_call3 (x:=waysD made) (y:= .str x) (z:=rowsD (rowsP xs)) kR kR kD kD kR kR kR kR kR kR (E_name kR kR ?_) ?_
  ·exact(sN).trans ((comp_get kR kD).trans (purL_val h6))
  ·exact joined_val made x (rowsP xs) (by rw[rowsP,List.length_map];omega) hc kO fun o ho=>by have:=i2 o ho;omega
 ·have:=joinedP_len (states:=made) hc
  have h2:=i1 kO
  rw[Nat.pow_succ]
  omega
 ·obtain⟨s,hs,hw⟩:=joinedP_mem hw
  have h1:=i2 s hs
  have h2:=optsP_mem hw
  omega
end
def longer(b w:List (Str×Str)):List (Str×Str):=if b.length<w.length then w else b
def bestP:List (List (Str×Str))→List (Str×Str)
 |[]=>[]
 |w::ws=>ws.foldl longer w
section
variable{n:Nat}{l:LocB}{xs:List Int}
theorem st19{ways:List (List (Str×Str))}(h1:l "names"=some (.val (strsD nm5)))(h6:l "ways"=some (.val (waysD ways)))(hne:ways≠[])(hl:ways.length≤10000)(hw:∀w∈ways,w.length≤5)(hn:((bestP ways).map (·.1)).Nodup):(ev fns1 glob1 (n+30)).S true sc1 l (ls1 19)=some (.next,setL l "lines" (.val (laysD (linesP nm5 (bestP ways))))):=by
 have hlim:lim=1000000:=rfl
 obtain⟨w0,ws,rfl⟩:∃w ws,ways=w::ws:=by
  cases ways with
  |nil=>exact absurd rfl hne
  |cons w ws=>exact⟨w,ws,rfl⟩
 have hbest:∀(ws:List (List (Str×Str))) (b:List (Str×Str)),b.length≤5→(∀w∈ws,w.length≤5)→(ws.foldl longer b).length≤5:=by
  intro ws
  induction ws with
  |nil=>intro b h _;exact h
  |cons w ws ih=>
   intro b h hh
   rw[List.foldl_cons]
   refine ih _ ?_ fun v hv=>hh v (zmC _ hv)
   unfold longer
   split
   ·exact hh w zmS
   ·exact h
 have hb5:(bestP (w0::ws)).length≤5:=hbest ws w0 (hw _ zmS) fun v hv=>hw v (zmC _ hv)
 show (ev fns1 glob1 (n+30)).S true sc1 l (.Assign [_] (.Call (.Name _ _) [_,.Call (.Name _ _) [.Lambda _ _ _ _,_] [] _] [] _) _)=_
 refine S_assign (E_call2 (x:=strsD nm5) (y:=rowsD (bestP (w0::ws))) kR kR kD kD kR kR kR (E_name kR kR (purL_val h1)) (E_reduce2 (a:=rowsD w0) (ds:=ws.map rowsD) kR kR kR (E_name kR kR (purL_val h6)) ?_) (lines_val nm5 (bestP (w0::ws)) hn kD kO)) kR kR
 refine fold_map (ea:=rowsD) (ex:=rowsD) (step:=longer) (Inv:=fun _ b=>b.length≤5) ws 0 w0 (hw _ zmS) ?_
 intro j b w hwm _ _ hb
 have hw5:=hw w (zmC _ hwm)
 refine⟨(applyD_eq (l':=setL (setL (compLoc _ (purL l)) "way" (rowsD w)) "best" (rowsD b)) rfl).trans ?_,?_⟩
 ·refine E_ifexp (c:=decide (b.length<w.length)) ((Bt_cmp kR (x:= .int (w.length:Int)) (y:= .int (b.length:Int)) ((len_val (ds:=w.map rowD) kR kR kR kR (by simp;omega)).trans (by rw[List.length_map])) ((len_val (ds:=b.map rowD) kR kR kR kR (by simp;omega)).trans (by rw[List.length_map])) ?_)) ?_
  ·show some (decide ((w.length:Int) > (b.length:Int)))=_
   congr 1
   rw[Bool.eq_iff_iff,decide_eq_true_eq,decide_eq_true_eq]
   omega
  ·unfold longer
   by_cases e:b.length<w.length
   ·rw[if_pos e,decide_eq_true e];kernel_rfl
   ·rw[if_neg e,decide_eq_false e];kernel_rfl
 ·unfold longer
  split
  ·exact hw5
  ·exact hb
theorem st20e(h6:l "pairs"=some (.val (pairsD (pairsP xs)))):(ev fns1 glob1 (n+30)).E true sc1 (purL l) (match ls1 20 with| .Assign _ e _=>e|_=> .Constant .none 0 ⟨0,0,0,0⟩)=some (.list [.int ((greatP (pairsP xs)).1:Int),.int ((greatP (pairsP xs)).2:Int)]):=by
 have hr:=pairsP_len xs
 exact E_call1 (x:=pairsD (pairsP xs)) kR kR kD kD kR kR (E_name kR kR (purL_val h6)) (great_val (pairsP xs) kO)
def catP:List (List Str)→List Str
 |[]=>[]
 |w::ws=>ws.foldl (fun a b=>a++b) w
theorem cat_le:∀(ws:List (List Str)) (b:List Str),b.length≤(ws.foldl (fun a b=>a++b) b).length
 |[],b=>Nat.le_refl _
 |w::ws,b=>by
  rw[List.foldl_cons]
  have:=cat_le ws (b++w)
  rw[List.length_append] at this
  omega
theorem cat_fold{r:Ev}{lp:Loc}{g:Expr}(hg:∀a b:List Str,a.length+b.length≤lim→applyD r lp g [strsD a,strsD b]=some (strsD (a++b))):∀(ws:List (List Str)) (b:List Str),(ws.foldl (fun a b=>a++b) b).length<64→foldD r lp g (strsD b) (ws.map strsD)=some (strsD (ws.foldl (fun a b=>a++b) b))
 |[],_,_=>rfl
 |w::ws,b,h=>by
  have hlim:lim=1000000:=rfl
  rw[List.foldl_cons] at h
  have hle:=cat_le ws (b++w)
  rw[List.length_append] at hle
  show (applyD r lp g [strsD b,strsD w]).bind (fun a'=>foldD r lp g a' (ws.map strsD))=_
  rw[hg b w kO]
  exact cat_fold hg ws (b++w) h
theorem st21{lines:List (List Str)}{w:Nat}(h1:l "names"=some (.val (strsD nm5)))(h6:l "lines"=some (.val (laysD lines)))(h7:l "widest"=some (.val (.int (w:Int))))(hne:lines≠[])(hl:lines.length≤100)(hs:(catP lines).length<64)(hcat:sortS (catP lines)=sortS nm5)(hw:lines.length=w):(ev fns1 glob1 (n+30)).S true sc1 l (ls1 21)=some (.next,l):=by
 have hlim:lim=1000000:=rfl
 obtain⟨w0,ws,rfl⟩:∃w ws,lines=w::ws:=by
  cases lines with
  |nil=>exact absurd rfl hne
  |cons w ws=>exact⟨w,ws,rfl⟩
 show (ev fns1 glob1 (n+30)).S true sc1 l (.If (.BoolOp _ [.Compare (.Call (.Name _ _) [.Call (.Name _ _) [.Lambda _ _ _ _,_] [] _] [] _) [_] [.Call (.Name _ _) [_] [] _] _,.Compare (.Call (.Name _ _) [_] [] _) [_] [_] _] _) _ [] _)=_
 refine(S_if (c:=false) (Bt_or (c:=false) (e:=false) ((Bt_cmp kR (x:=strsD (sortS (catP (w0::ws)))) (y:=strsD (sortS nm5)) (E_builtin1 (x:=strsD (catP (w0::ws))) kR kR kD kD kR kR (E_reduce2 (a:=strsD w0) (ds:=ws.map strsD) kR kR kR (E_name kR kR (allL_val h6)) ?_) (sorted_strsD hs)) (E_builtin1 (x:=strsD nm5) kR kR kD kD kR kR (E_name kR kR (allL_val h1)) (sorted_strsD kD)) (Faith.strs.ne kO _ _)).trans (by rw[hcat];simp)) ((Bt_cmp kR (x:= .int ((w0::ws).length:Int)) (y:= .int (w:Int)) ((len_val (ds:=(w0::ws).map strsD) kR kR kR (E_name kR kR (allL_val h6)) (by simp;simp at hl;omega)).trans (by rw[List.length_map])) (E_name kR kR (allL_val h7)) (natFaith.ne kO _ _)).trans (by rw[hw];simp)))).trans Ssl_nil
 refine cat_fold ?_ ws w0 hs
 intro a b hab
 refine(applyD_eq (l':=setL (setL (compLoc _ (allL l)) "other" (strsD b)) "one" (strsD a)) rfl).trans ?_
 exact E_bin (x:=strsD a) (y:=strsD b) kR kR ((add_lists (by simp;omega)).trans (by simp[strsD]))
end
def walk(way:List (Str×Str)):Nat→Str→List Str
 |0,x=>[x]
 |k+1,x=>x::(match way.lookup x with|some y=>walk way k y|none=>[])
theorem walk_ne(way:List (Str×Str))(k:Nat)(x:Str):∃r,walk way k x=x::r:=by
 cases k with
 |zero=>exact⟨[],rfl⟩
 |succ k=>exact⟨_,rfl⟩
theorem nextL_cons{way:List (Str×Str)}{x:Str}{l:List Str}(h:l≠[]):nextL way (x::l)=x::nextL way l:=by
 unfold nextL
 have e:(x::l).getLast? =l.getLast? :=by
  cases l with
  |nil=>exact absurd rfl h
  |cons y l=>rw[List.getLast?_cons_cons]
 rw[e]
 split
 ·split <;> rfl
 ·rfl
theorem nextL_walk(way:List (Str×Str)):∀(k:Nat) (x:Str),nextL way (walk way k x)=walk way (k+1) x
 |0,x=>by
  show nextL way [x]=x::(match way.lookup x with|some y=>[y]|none=>[])
  unfold nextL
  show (match way.lookup x with|some y=>[x]++[y]|none=>[x])=_
  cases way.lookup x <;> rfl
 |k+1,x=>by
  show nextL way (x::(match way.lookup x with|some y=>walk way k y|none=>[]))=x::(match way.lookup x with|some y=>walk way (k+1) y|none=>[])
  cases h:way.lookup x with
  |none=>
   show nextL way [x]=[x]
   unfold nextL
   show (match way.lookup x with|some y=>[x]++[y]|none=>[x])=[x]
   rw[h]
  |some y=>
   show nextL way (x::walk way k y)=x::walk way (k+1) y
   obtain⟨r,hr⟩:=walk_ne way k y
   rw[nextL_cons (by rw[hr];simp),nextL_walk way k y]
theorem lines_walk(names:List Str)(way:List (Str×Str)):linesP names way=(names.filter fun x=> !decide (x∈way.map (·.2))).map (walk way names.length):=by
 unfold linesP lines0
 generalize (names.filter fun x=> !decide (x∈way.map (·.2)))=starts
 have h:∀(ns:List Str) (k:Nat),ns.foldl (fun ls _=>ls.map (nextL way)) (starts.map (walk way k))=starts.map (walk way (k+ns.length)):=by
  intro ns
  induction ns with
  |nil=>intro k;rfl
  |cons n ns ih=>
   intro k
   rw[List.foldl_cons,List.map_map]
   have e:(nextL way ∘ walk way k)=walk way (k+1):=funext fun x=>nextL_walk way k x
   rw[e,ih (k+1),List.length_cons]
   congr 2
   omega
 have:=h names 0
 rw[Nat.zero_add] at this
 exact this
structure Way(R:Str→Str→Prop)(names:List Str)(way:List (Str×Str)):Prop where
 f:(way.map (·.1)).Nodup
 s:(way.map (·.2)).Nodup
 r:∀q∈way,R q.1 q.2
 n:∀q∈way,q.1∈names∧q.2∈names
theorem lookup_mem'{way:List (Str×Str)}{x y:Str}(h:way.lookup x=some y):(x,y)∈way:=by
 induction way with
 |nil=>cases h
 |cons q way ih=>
  obtain⟨a,b⟩:=q
  rw[List.lookup_cons] at h
  cases e:x==a with
  |true=>rw[e] at h;cases h;rw[eq_of_beq e];exact zmS
  |false=>rw[e] at h;exact zmC _ (ih h)
theorem lookup_of_mem{way:List (Str×Str)}(hn:(way.map (·.1)).Nodup){x y:Str}(h:(x,y)∈way):way.lookup x=some y:=by
 induction way with
 |nil=>cases h
 |cons q way ih=>
  obtain⟨a,b⟩:=q
  obtain⟨h1,h2⟩:=znco.mp hn
  rw[List.lookup_cons]
  rcases zcon.mp h with e|h'
  ·cases e;simp
  ·have hne:(x==a)=false:=by
    rw[beq_eq_false_iff_ne]
    intro e
    exact h1 (zmap.mpr ⟨(x,y),h',e⟩)
   rw[hne]
   exact ih h2 h'
section
variable{R:Str→Str→Prop}{names:List Str}{way:List (Str×Str)}
theorem Way.nx(W:Way R names way){x y:Str}(h:way.lookup x=some y):R x y∧x∈names∧y∈names:=
 ⟨W.r _ (lookup_mem' h),W.n _ (lookup_mem' h)⟩
theorem snd_inj{way:List (Str×Str)}(hs:(way.map (·.2)).Nodup){x z y:Str}(h:(x,y)∈way)(g:(z,y)∈way):x=z:=by
 induction way with
 |nil=>cases h
 |cons q way ih=>
  obtain⟨a,b⟩:=q
  obtain⟨h1,h2⟩:=znco.mp hs
  rcases zcon.mp h with e|h'
  ·rcases zcon.mp g with e2|g'
   ·cases e;cases e2;rfl
   ·have eb:y=b:=congrArg Prod.snd e
    exact absurd (zmap.mpr ⟨(z,y),g',eb⟩) h1
  ·rcases zcon.mp g with e2|g'
   ·have eb:y=b:=congrArg Prod.snd e2
    exact absurd (zmap.mpr ⟨(x,y),h',eb⟩) h1
   ·exact ih h2 h' g'
def stepsN(way:List (Str×Str)):Nat→Str→Option Str
 |0,x=>some x
 |k+1,x=>(stepsN way k x).bind fun y=>way.lookup y
theorem stepsN_front(way:List (Str×Str)):∀(k:Nat) (x:Str),stepsN way (k+1) x=(way.lookup x).bind fun y=>stepsN way k y
 |0,x=>by
  show way.lookup x=(way.lookup x).bind fun y=>some y
  cases way.lookup x <;> rfl
 |k+1,x=>by
  show (stepsN way (k+1) x).bind (fun y=>way.lookup y)=_
  rw[stepsN_front way k x]
  cases way.lookup x with
  |none=>rfl
  |some y=>rfl
theorem walk_mem(way:List (Str×Str)):∀(k:Nat) (x z:Str),z∈walk way k x↔∃i,i≤k∧stepsN way i x=some z
 |0,x,z=>by
  show z∈[x]↔_
  rw[List.mem_singleton]
  constructor
  ·rintro rfl;exact⟨0,Nat.le_refl _,rfl⟩
  ·rintro ⟨i,hi,e⟩
   have:i=0:=by omega
   subst this
   cases e;rfl
 |k+1,x,z=>by
  show z∈x::(match way.lookup x with|some y=>walk way k y|none=>[])↔_
  rw[List.mem_cons]
  constructor
  ·rintro (rfl|h)
   ·exact⟨0,Nat.zero_le _,rfl⟩
   ·cases hl:way.lookup x with
    |none=>rw[hl] at h;cases h
    |some y=>
     rw[hl] at h
     obtain⟨i,hi,e⟩:=(walk_mem way k y z).mp h
     refine⟨i+1,by omega,?_⟩
     rw[stepsN_front,hl]
     exact e
  ·rintro ⟨i,hi,e⟩
   cases i with
   |zero=>cases e;exact .inl rfl
   |succ i=>
    right
    rw[stepsN_front] at e
    cases hl:way.lookup x with
    |none=>rw[hl] at e;cases e
    |some y=>
     rw[hl] at e
     exact(walk_mem way k y z).mpr ⟨i,by omega,e⟩
theorem walk_up(O:Ord R)(W:Way R names way):∀(k:Nat) (x:Str),(walk way k x).Pairwise R∧∀z∈walk way k x,z=x∨R x z
 |0,x=>⟨List.pairwise_singleton _ _,fun z hz=> .inl (List.mem_singleton.mp hz)⟩
 |k+1,x=>by
  show (x::(match way.lookup x with|some y=>walk way k y|none=>[])).Pairwise R∧∀z∈x::(match way.lookup x with|some y=>walk way k y|none=>[]),z=x∨R x z
  cases hl:way.lookup x with
  |none=>exact⟨List.pairwise_singleton _ _,fun z hz=> .inl (List.mem_singleton.mp hz)⟩
  |some y=>
   obtain⟨h1,h2⟩:=walk_up O W k y
   have hr:=(W.nx hl).1
   have hb:∀z∈walk way k y,R x z:=fun z hz=>by
    rcases h2 z hz with rfl|h
    ·exact hr
    ·exact O.tr _ _ _ hr h
   refine⟨List.pairwise_cons.mpr ⟨hb,h1⟩,fun z hz=> ?_⟩
   rcases zcon.mp hz with rfl|hz
   ·exact .inl rfl
   ·exact .inr (hb z hz)
theorem steps_inj(W:Way R names way){s t:Str}(hs:s∉way.map (·.2))(ht:t∉way.map (·.2)):∀(i j:Nat) (x:Str),stepsN way i s=some x→stepsN way j t=some x→s=t
 |0,0,x,h,g=>by cases h;cases g;rfl
 |0,j+1,x,h,g=>by
  cases h
  obtain⟨y,_,hy⟩:=zbs.mp (show (stepsN way j t).bind (fun y=>way.lookup y)=some s from g)
  exact absurd (zmap.mpr ⟨_,lookup_mem' hy,rfl⟩) hs
 |i+1,0,x,h,g=>by
  cases g
  obtain⟨y,_,hy⟩:=zbs.mp (show (stepsN way i s).bind (fun y=>way.lookup y)=some t from h)
  exact absurd (zmap.mpr ⟨_,lookup_mem' hy,rfl⟩) ht
 |i+1,j+1,x,h,g=>by
  obtain⟨y,hy1,hy⟩:=zbs.mp (show (stepsN way i s).bind (fun y=>way.lookup y)=some x from h)
  obtain⟨z,hz1,hz⟩:=zbs.mp (show (stepsN way j t).bind (fun y=>way.lookup y)=some x from g)
  have e:=snd_inj W.s (lookup_mem' hy) (lookup_mem' hz)
  rw[e] at hy1
  exact steps_inj W hs ht i j z hy1 hz1
theorem back(O:Ord R)(W:Way R names way):∀(k:Nat) (x:Str),x∈names→(∃s i,s∈names∧s∉way.map (·.2)∧i≤k∧stepsN way i s=some x)∨∃c:List Str,c.length=k+2∧(∀z∈c,z∈names)∧c.Pairwise R∧∀z∈c,z=x∨R z x
 |0,x,hx=>by
  by_cases h:x∈way.map (·.2)
  ·right
   obtain⟨q,hq,rfl⟩:=zmap.mp h
   have hr:=W.r q hq
   refine⟨[q.1,q.2],rfl,fun z hz=> ?_,by simp[hr],fun z hz=> ?_⟩
   ·simp at hz
    rcases hz with rfl|rfl
    ·exact(W.n q hq).1
    ·exact hx
   ·simp at hz
    rcases hz with rfl|rfl
    ·exact .inr hr
    ·exact .inl rfl
  ·exact .inl ⟨x,0,hx,h,Nat.le_refl _,rfl⟩
 |k+1,x,hx=>by
  by_cases h:x∈way.map (·.2)
  ·obtain⟨q,hq,rfl⟩:=zmap.mp h
   have hr:=W.r q hq
   rcases back O W k q.1 (W.n q hq).1 with ⟨s,i,h1,h2,h3,h4⟩|⟨c,c1,c2,c3,c4⟩
   ·refine .inl ⟨s,i+1,h1,h2,by omega,?_⟩
    show (stepsN way i s).bind (fun y=>way.lookup y)=_
    rw[h4]
    exact lookup_of_mem W.f hq
   ·right
    have hb:∀z∈c,R z q.2:=fun z hz=>by
     rcases c4 z hz with rfl|hz
     ·exact hr
     ·exact O.tr _ _ _ hz hr
    refine⟨c++[q.2],by simp[c1],fun z hz=> ?_,List.pairwise_append.mpr ⟨c3,List.pairwise_singleton _ _,fun z hz w hw=>by simp at hw;subst hw;exact hb z hz⟩,fun z hz=> ?_⟩
    ·rcases zapp.mp hz with hz|hz
     ·exact c2 z hz
     ·simp at hz;subst hz;exact hx
    ·rcases zapp.mp hz with hz|hz
     ·exact .inr (hb z hz)
     ·simp at hz;exact .inl hz
  ·exact .inl ⟨x,0,hx,h,Nat.zero_le _,rfl⟩
end
theorem nodup_perm:∀{a b:List Str},a.Nodup→b.Nodup→(∀z,z∈a↔z∈b)→a.Perm b
 |[],b,_,_,h=>by
  cases b with
  |nil=>exact List.Perm.refl _
  |cons y b=>exact absurd ((h y).mpr zmS) (by simp)
 |x::a,b,ha,hb,h=>by
  obtain⟨h1,h2⟩:=znco.mp ha
  have hx:x∈b:=(h x).mp zmS
  have hp:=List.perm_cons_erase hx
  refine List.Perm.trans (List.Perm.cons x (nodup_perm h2 (hb.erase x) fun z=> ?_)) hp.symm
  rw[hb.mem_erase_iff]
  constructor
  ·intro hz
   exact⟨fun e=>h1 (e▸hz),(h z).mp (zmC _ hz)⟩
  ·rintro ⟨g1,g2⟩
   rcases zcon.mp ((h z).mpr g2) with e|hz
   ·exact absurd e g1
   ·exact hz
theorem nodup_len{a b:List Str}(ha:a.Nodup)(h:∀z∈a,z∈b):a.length≤b.length:=by
 induction a generalizing b with
 |nil=>simp
 |cons x a ih=>
  obtain⟨h1,h2⟩:=znco.mp ha
  have hx:=h x zmS
  have:=ih (b:=b.erase x) h2 fun z hz=>(List.mem_erase_of_ne (fun e:z=x=>h1 (e▸hz))).mpr (h z (zmC _ hz))
  rw[List.length_erase_of_mem hx] at this
  have hpos:0<b.length:=List.length_pos_of_mem hx
  simp only[List.length_cons]
  omega
theorem filter_split{α:Type}(p:α→Bool):∀l:List α,(l.filter p).length+(l.filter fun x=> !p x).length=l.length
 |[]=>rfl
 |x::l=>by
  have ih:=filter_split p l
  cases h:p x with
  |true=>rw[List.filter_cons_of_pos h,List.filter_cons_of_neg (by simp[h])];simp only[List.length_cons];omega
  |false=>rw[List.filter_cons_of_neg (by simp[h]),List.filter_cons_of_pos (by simp[h])];simp only[List.length_cons];omega
theorem catP_flat:∀ls:List (List Str),catP ls=ls.flatten
 |[]=>rfl
 |w::ws=>by
  show ws.foldl (fun a b=>a++b) w=w++ws.flatten
  have h:∀(ws:List (List Str)) (w:List Str),ws.foldl (fun a b=>a++b) w=w++ws.flatten:=by
   intro ws
   induction ws with
   |nil=>intro w;simp
   |cons v ws ih=>intro w;rw[List.foldl_cons,ih,List.flatten_cons,List.append_assoc]
  exact h ws w
section
variable{R:Str→Str→Prop}{names:List Str}{way:List (Str×Str)}
theorem way_rows(O:Ord R)(W:Way R names way)(hn:names.Nodup)(h5:names.length≤5):
  (linesP names way).length+way.length=names.length∧(catP (linesP names way)).Perm names∧(∀l∈linesP names way,l.Pairwise R∧l≠[]):=by
 have hc:∀c:List Str,(∀z∈c,z∈names)→c.Pairwise R→c.length≤names.length:=fun c h1 h2=>by
  refine nodup_len ?_ h1
  exact h2.imp fun {a b} (h:R a b) (e:a=b)=>O.irr a (by rw[←e] at h;exact h)
 rw[lines_walk]
 have hst:∀s∈names.filter (fun x=> !decide (x∈way.map (·.2))),s∈names∧s∉way.map (·.2):=fun s hs=>by
  obtain⟨h1,h2⟩:=zfil.mp hs
  exact⟨h1,by simpa using h2⟩
 have hst':∀s,s∈names→s∉way.map (·.2)→s∈names.filter (fun x=> !decide (x∈way.map (·.2))):=fun s h1 h2=>zfil.mpr ⟨h1,by simpa using h2⟩
 have hlen:(names.filter fun x=> !decide (x∈way.map (·.2))).length+way.length=names.length:=by
  have h1:=filter_split (fun x=>decide (x∈way.map (·.2))) names
  have h2:(names.filter fun x=>decide (x∈way.map (·.2))).Perm (way.map (·.2)):=nodup_perm (hn.filter _) W.s fun z=>by
   rw[List.mem_filter,decide_eq_true_eq]
   constructor
   ·exact fun h=>h.2
   ·intro h
    obtain⟨q,hq,rfl⟩:=zmap.mp h
    exact⟨(W.n q hq).2,h⟩
  have h3:=h2.length_eq
  rw[List.length_map] at h3
  omega
 refine⟨by rw[List.length_map];exact hlen,?_,fun l hl=> ?_⟩
 ·rw[catP_flat]
  refine nodup_perm ?_ hn fun z=> ?_
  ·refine List.pairwise_flatten.mpr ⟨fun l hl=> ?_,?_⟩
   ·obtain⟨s,hs,rfl⟩:=zmap.mp hl
    exact(walk_up O W names.length s).1.imp fun {a b} (h:R a b) (e:a=b)=>O.irr a (by rw[←e] at h;exact h)
   ·refine List.pairwise_map.mpr ((hn.filter _).imp_of_mem fun {s t} hs ht hne x hx y hy e=> ?_)
    obtain⟨i,_,e1⟩:=(walk_mem way _ s x).mp hx
    obtain⟨j,_,e2⟩:=(walk_mem way _ t y).mp hy
    rw[←e] at e2
    exact hne (steps_inj W (hst s hs).2 (hst t ht).2 i j x e1 e2)
  ·rw[List.mem_flatten]
   constructor
   ·rintro ⟨l,hl,hz⟩
    obtain⟨s,hs,rfl⟩:=zmap.mp hl
    obtain⟨i,_,e⟩:=(walk_mem way _ s z).mp hz
    cases i with
    |zero=>cases e;exact(hst _ hs).1
    |succ i=>
     obtain⟨y,_,hy⟩:=zbs.mp (show (stepsN way i s).bind (fun y=>way.lookup y)=some z from e)
     exact(W.nx hy).2.2
   ·intro hz
    rcases back O W names.length z hz with ⟨s,i,h1,h2,h3,h4⟩|⟨c,c1,c2,c3,_⟩
    ·exact⟨_,List.mem_map_of_mem (hst' s h1 h2),(walk_mem way _ s z).mpr ⟨i,h3,h4⟩⟩
    ·have:=hc c c2 c3;omega
 ·obtain⟨s,hs,rfl⟩:=zmap.mp hl
  refine⟨(walk_up O W names.length s).1,?_⟩
  obtain⟨r,hr⟩:=walk_ne way names.length s
  rw[hr];simp
end
theorem sortS_iff{a b:List Str}:sortS a=sortS b↔a.Perm b:=by
 constructor
 ·intro h
  have h1:=List.mergeSort_perm a strLe
  have h2:=List.mergeSort_perm b strLe
  have h:a.mergeSort strLe=b.mergeSort strLe:=h
  exact h1.symm.trans (h▸h2)
 ·intro h
  exact List.Perm.eq_of_pairwise (le:=fun a b=>strLe a b=true) (fun a b _ _ h g=>strLe_antisymm a b h g) (List.pairwise_mergeSort strLe_trans strLe_total a) (List.pairwise_mergeSort strLe_trans strLe_total b) ((List.mergeSort_perm a strLe).trans (h.trans (List.mergeSort_perm b strLe).symm))
theorem keyP_iff{a b:List (Str×Str)}:keyP a=keyP b↔(a.map (·.2)).Perm (b.map (·.2)):=sortS_iff
theorem addP_keys:∀(ones:List (List (Str×Str))) (q:List (List (Str×Str))×List (List Str)),q.2=q.1.map keyP→(ones.foldl addP q).2=(ones.foldl addP q).1.map keyP∧(∀k∈q.2,k∈(ones.foldl addP q).2)∧∀o∈ones,keyP o∈(ones.foldl addP q).2
 |[],q,h=>⟨h,fun _ h=>h,fun o ho=>by cases ho⟩
 |o::ones,q,h=>by
  rw[List.foldl_cons]
  have h1:(addP q o).2=(addP q o).1.map keyP:=by
   unfold addP
   split
   ·exact h
   ·rw[List.map_append,←h];rfl
  have h2:∀k∈q.2,k∈(addP q o).2:=fun k hk=>by
   unfold addP
   split
   ·exact hk
   ·exact zmL _ hk
  have h3:keyP o∈(addP q o).2:=by
   unfold addP
   split
   ·assumption
   ·exact zmr _ (List.mem_singleton.mpr rfl)
  obtain⟨g1,g2,g3⟩:=addP_keys ones (addP q o) h1
  refine⟨g1,fun k hk=>g2 k (h2 k hk),fun o' ho=> ?_⟩
  rcases zcon.mp ho with rfl|ho
  ·exact g2 _ h3
  ·exact g3 o' ho
theorem joined_key{states:List (List (Str×Str))}{name:Str}{rows:List (Str×Str)}{s o:List (Str×Str)}(hs:s∈states)(ho:o∈optsP name rows s):∃w∈joinedP states name rows,keyP w=keyP o:=by
 obtain⟨g1,_,g3⟩:=addP_keys (states.flatMap (optsP name rows)) ([],[]) rfl
 have:=g3 o (List.mem_flatMap.mpr ⟨s,hs,ho⟩)
 rw[g1] at this
 obtain⟨w,hw,e⟩:=zmap.mp this
 exact⟨w,hw,e⟩
structure Match(rows:List (Str×Str))(p:List Str)(w:List (Str×Str)):Prop where
 f:(w.map (·.1)).Nodup
 s:(w.map (·.2)).Nodup
 r:∀q∈w,q∈rows∧q.1∈p
structure Ways(rows:List (Str×Str))(p:List Str)(made:List (List (Str×Str))):Prop where
 ok:∀w∈made,Match rows p w
 all:∀M,Match rows p M→∃w∈made,keyP w=keyP M
theorem Ways.step{rows:List (Str×Str)}{p:List Str}{made:List (List (Str×Str))}(h:Ways rows p made){x:Str}(hx:x∉p):Ways rows (p++[x]) (joinedP made x rows) where
 ok:=fun w hw=>by
  obtain⟨s,hs,hw⟩:=joinedP_mem hw
  have hm:=h.ok s hs
  unfold optsP at hw
  rcases zcon.mp hw with rfl|hw
  ·exact⟨hm.f,hm.s,fun q hq=>⟨(hm.r q hq).1,zmL _ (hm.r q hq).2⟩⟩
  ·obtain⟨q,hq,rfl⟩:=zmap.mp hw
   obtain⟨hq1,hq2⟩:=zfil.mp hq
   rw[Bool.and_eq_true] at hq2
   have e1:q.1=x:=by simpa using hq2.1
   have e2:q.2∉s.map (·.2):=by simpa using hq2.2
   refine⟨?_,?_,fun q' hq'=> ?_⟩
   ·rw[List.map_append]
    refine List.nodup_append.mpr ⟨hm.f,by simp,fun a ha b hb e=> ?_⟩
    obtain⟨r,hr,rfl⟩:=zmap.mp ha
    simp at hb
    have:=(hm.r r hr).2
    rw[e,hb,e1] at this
    exact hx this
   ·rw[List.map_append]
    refine List.nodup_append.mpr ⟨hm.s,by simp,fun a ha b hb e=> ?_⟩
    simp at hb
    rw[e,hb] at ha
    exact e2 ha
   ·rcases zapp.mp hq' with hq'|hq'
    ·exact⟨(hm.r q' hq').1,zmL _ (hm.r q' hq').2⟩
    ·simp at hq'
     subst hq'
     exact⟨hq1,by rw[e1];exact zmr _ (List.mem_singleton.mpr rfl)⟩
 all:=fun M hM=>by
  by_cases hex:∃q∈M,q.1=x
  ·obtain⟨q,hq,e⟩:=hex
   have hp:=List.perm_cons_erase hq
   have hf:=hp.map (·.1)
   have hs:=hp.map (·.2)
   rw[List.map_cons] at hf hs
   obtain⟨f1,f2⟩:=znco.mp (hf.nodup_iff.mp hM.f)
   obtain⟨s1,s2⟩:=znco.mp (hs.nodup_iff.mp hM.s)
   obtain⟨w,hw,hk⟩:=h.all (M.erase q) ⟨f2,s2,fun r hr=>by
    have hr':=hM.r r (List.mem_of_mem_erase hr)
    refine⟨hr'.1,?_⟩
    rcases zapp.mp hr'.2 with h|h
    ·exact h
    ·simp at h
     exact absurd (zmap.mpr ⟨r,hr,by rw[h,e]⟩) f1⟩
   have hk:=keyP_iff.mp hk
   have hn:q.2∉w.map (·.2):=fun hm=>s1 (hk.mem_iff.mp hm)
   have ho:w++[q]∈optsP x rows w:=by
    unfold optsP
    refine zmC _ (zmap.mpr ⟨q,zfil.mpr ⟨(hM.r q hq).1,?_⟩,rfl⟩)
    rw[Bool.and_eq_true]
    exact⟨by simpa using e,by simpa using hn⟩
   obtain⟨v,hv,hvk⟩:=joined_key hw ho
   refine⟨v,hv,hvk.trans (keyP_iff.mpr ?_)⟩
   rw[List.map_append]
   refine List.Perm.trans ?_ hs.symm
   refine List.Perm.trans List.perm_append_comm ?_
   exact List.Perm.cons _ hk
  ·obtain⟨w,hw,hk⟩:=h.all M ⟨hM.f,hM.s,fun r hr=>by
    have hr':=hM.r r hr
    refine⟨hr'.1,?_⟩
    rcases zapp.mp hr'.2 with h|h
    ·exact h
    ·simp at h
     exact absurd ⟨r,hr,h⟩ hex⟩
   obtain⟨v,hv,hvk⟩:=joined_key hw (zmS:w∈optsP x rows w)
   exact⟨v,hv,hvk.trans hk⟩
theorem ways_all{rows:List (Str×Str)}:∀(rest p:List Str) (made:List (List (Str×Str))),Ways rows p made→(p++rest).Nodup→Ways rows (p++rest) (rest.foldl (fun made name=>joinedP made name rows) made)
 |[],p,made,h,_=>by rw[List.append_nil];exact h
 |x::rest,p,made,h,hn=>by
  rw[List.foldl_cons]
  have e:p++x::rest=(p++[x])++rest:=by simp
  rw[e] at hn ⊢
  refine ways_all rest (p++[x]) _ (h.step fun hx=> ?_) hn
  have:=(List.nodup_append.mp (List.nodup_append.mp hn).1).2.2 x hx x (by simp)
  exact this rfl
theorem ways_ok{rows:List (Str×Str)}(hr:∀q∈rows,q.1∈nm5):Ways rows nm5 (waysP rows):=by
 have h:=ways_all (rows:=rows) nm5 [] [[]] ⟨fun w hw=>by simp at hw;subst hw;exact⟨by simp,by simp,fun q hq=>by cases hq⟩,fun M hM=>⟨[],by simp,by
  cases M with
  |nil=>rfl
  |cons q M=>exact absurd (hM.r q zmS).2 (by simp)⟩⟩ kD
 exact h
theorem best_spec:∀ways:List (List (Str×Str)),ways≠[]→bestP ways∈ways∧∀w∈ways,w.length≤(bestP ways).length
 |[],h=>absurd rfl h
 |w0::ws,_=>by
  have h:∀(ws:List (List (Str×Str))) (b:List (Str×Str)),(ws.foldl longer b=b∨ws.foldl longer b∈ws)∧b.length≤(ws.foldl longer b).length∧∀w∈ws,w.length≤(ws.foldl longer b).length:=by
   intro ws
   induction ws with
   |nil=>intro b;exact⟨.inl rfl,Nat.le_refl _,fun w hw=>by cases hw⟩
   |cons w ws ih=>
    intro b
    rw[List.foldl_cons]
    obtain⟨i1,i2,i3⟩:=ih (longer b w)
    have hl:b.length≤(longer b w).length∧w.length≤(longer b w).length∧(longer b w=b∨longer b w=w):=by
     unfold longer
     split
     ·exact⟨by omega,Nat.le_refl _,.inr rfl⟩
     ·exact⟨Nat.le_refl _,by omega,.inl rfl⟩
    refine⟨?_,by omega,fun v hv=> ?_⟩
    ·rcases i1 with i1|i1
     ·rw[i1]
      rcases hl.2.2 with e|e
      ·exact .inl e
      ·right;rw[e];exact zmS
     ·exact .inr (zmC _ i1)
    ·rcases zcon.mp hv with rfl|hv
     ·omega
     ·exact i3 v hv
  obtain⟨h1,h2,h3⟩:=h ws w0
  refine⟨?_,fun w hw=> ?_⟩
  ·rcases h1 with h1|h1
   ·show ws.foldl longer w0∈_
    rw[h1];exact zmS
   ·exact zmC _ h1
  ·rcases zcon.mp hw with rfl|hw
   ·exact h2
   ·exact h3 w hw
def acrossP(rows:List (Str×Str))(lines:List (List Str)):List (List Str):=(rows.filter fun q=>decide ((lines.filter fun line=>decide (q.1∈line)&&decide (q.2∈line))=[])).map fun q=>[q.1,q.2]
def compOf:Stmt→Expr
 | .Assign _ (.Call _ [.BinOp e _ _ _] _ _) _=>e
 | .Assign _ e _=>e
 |_=> .Constant .none 0 ⟨0,0,0,0⟩
def cElt:Expr→Expr
 | .ListComp (.Call _ [e] _ _) _ _ _=>e
 |_=> .Constant .none 0 ⟨0,0,0,0⟩
def cGen:Expr→Comprehension
 | .ListComp _ (g::_) _ _=>g
 |_=>⟨.Constant .none 0 ⟨0,0,0,0⟩,.Constant .none 0 ⟨0,0,0,0⟩,[],0⟩
def cSc:Expr→Scope
 | .ListComp _ _ sc _=>sc
 |_=>⟨.function,[],false,false,[]⟩
theorem strL_strs{xs:List Str}(h:xs.length≤lim):strL (strsD xs)=some (strsD xs):=by
 show (if (strs? (xs.map D.str)).isSome∧(xs.map D.str).length≤lim then some (D.list (xs.map D.str)) else none)=_
 rw[strs_map,if_pos ⟨rfl,by simpa using h⟩];rfl
section
variable{n:Nat}{l:LocB}{rows:List (Str×Str)}{lines:List (List Str)}
theorem st22c(h1:l "rows"=some (.val (rowsD rows)))(h2:l "lines"=some (.val (laysD lines)))(hr:rows.length≤1000)(hl:lines.length≤1000):
  comp (ev fns1 glob1 (n+30)) true (ownSc sc1 (cSc (compOf (ls1 22)))) (fun l'=>((ev fns1 glob1 (n+30)).E true (ownSc sc1 (cSc (compOf (ls1 22)))) l' (cElt (compOf (ls1 22)))).bind strL) [cGen (compOf (ls1 22))] (compLoc (cSc (compOf (ls1 22))) (purL l)) (rows.map rowD)=some (strLists (acrossP rows lines)):=by
 have hlim:lim=1000000:=rfl
 show compLoop (ev fns1 glob1 (n+30)) true _ _ ⟨.Name _ _,_,[.Compare (.ListComp _ _ _ _) [_] [_] _],_⟩ (fun l'=>(((ev fns1 glob1 (n+30)).E true (ownSc sc1 (cSc (compOf (ls1 22)))) l' (.Name "row" _)).bind strL).map fun x=>[x]) (rows.map rowD)=_
 refine(loop1 (emit:=fun l'=>((ev fns1 glob1 (n+30)).E true (ownSc sc1 (cSc (compOf (ls1 22)))) l' (.Name "row" _)).bind strL) rowD (fun q=>decide ((lines.filter fun line=>decide (q.1∈line)&&decide (q.2∈line))=[])) (fun q=>rowD q) rows _ kR ?_ ?_).trans ?_
 ·intro q hq
  refine T_one ((Bt_cmp kR (x:=laysD (lines.filter fun line=>decide (q.1∈line)&&decide (q.2∈line))) (y:= .list (([]:List (List Str)).map strsD)) ((comp1 strsD (fun line=>decide (q.1∈line)&&decide (q.2∈line)) strsD lines (itL (E_name kR kR ?_)) kR kR ?_ (fun line hline _=>by kernel_rfl) kO)) kR (Faith.strs.list.eq kO _ _)))
  ·exact(comp_get kR kD).trans (purL_val h2)
  ·intro line hline
   exact T_one (Bt_and (Bt_cmp kR (x:= .str q.1) (y:=strsD line) kR kR (Faith.str.isIn kO _ _)) (Bt_cmp kR (x:= .str q.2) (y:=strsD line) kR kR (Faith.str.isIn kO _ _)))
 ·intro q hq _
  show ((ev fns1 glob1 (n+30)).E true _ (setL _ "row" (rowD q)) (.Name "row" _)).bind strL=_
  rw[E_name kR kR setL_eq]
  exact strL_strs (xs:=[q.1,q.2]) (by simp;omega)
 ·unfold acrossP strLists
  rw[List.map_map];rfl
theorem st23c(h2:l "lines"=some (.val (laysD lines)))(hl:lines.length≤1000)(hi:∀x∈lines,x.length≤1000):
  comp (ev fns1 glob1 (n+30)) true (ownSc sc1 (cSc (compOf (ls1 23)))) (fun l'=>((ev fns1 glob1 (n+30)).E true (ownSc sc1 (cSc (compOf (ls1 23)))) l' (cElt (compOf (ls1 23)))).bind strL) [cGen (compOf (ls1 23))] (compLoc (cSc (compOf (ls1 23))) (purL l)) (lines.map strsD)=some (strLists lines):=by
 have hlim:lim=1000000:=rfl
 show compLoop (ev fns1 glob1 (n+30)) true _ _ ⟨.Name _ _,_,[],_⟩ (fun l'=>(((ev fns1 glob1 (n+30)).E true (ownSc sc1 (cSc (compOf (ls1 23)))) l' (.Name "line" _)).bind strL).map fun x=>[x]) (lines.map strsD)=_
 refine(loop1 (emit:=fun l'=>((ev fns1 glob1 (n+30)).E true (ownSc sc1 (cSc (compOf (ls1 23)))) l' (.Name "line" _)).bind strL) strsD (fun _=>true) strsD lines _ kR (fun _ _=>rfl) ?_).trans ?_
 ·intro q hq _
  show ((ev fns1 glob1 (n+30)).E true _ (setL _ "line" (strsD q)) (.Name "line" _)).bind strL=_
  rw[E_name kR kR setL_eq]
  exact strL_strs (by have:=hi q hq;omega)
 ·rw[List.filter_eq_self.mpr fun _ _=>rfl];rfl
theorem E_isinst{fns:List (Str×Fn)}{glob:List (Str×D)}{sc:Scope}{lp:Loc}{a:Expr}{m:Nat}{pi pl p:Pos}{k:Bool}{ds:List D}(hk:sc.names.lookup ("isinstance":Str)=some .globalImplicit)(hb:sc.names.lookup ("list":Str)=some .globalImplicit)(hs:PySem.W.isStarred a=false)(h1:(ev fns glob m).E k sc lp a=some (.list ds)):
  (ev fns glob (m+1)).E k sc lp (.Call (.Name "isinstance" pi) [a,.Name "list" pl] [] p)=some (.bool true):=by
 show stepE fns glob (ev fns glob m) k sc lp (.Call (.Name "isinstance" pi) [a,.Name "list" pl] [] p)=_
 unfold stepE;dsimp only
 rw[if_neg (by rw[hk];simp;decide),if_neg kD,if_pos rfl,if_pos ⟨rfl,hb,hs⟩,h1]
theorem st24{out:List Str}(h1:l "names"=some (.val (strsD nm5)))(h6:l "merged"=some (.val (strsD out)))(hl:out.length<64)(hs:sortS out=sortS nm5):(ev fns1 glob1 (n+30)).S true sc1 l (ls1 24)=some (.next,l):=by
 have hlim:lim=1000000:=rfl
 show (ev fns1 glob1 (n+30)).S true sc1 l (.If (.BoolOp _ [.UnaryOp .Not (.Call (.Name "isinstance" _) [_,.Name "list" _] [] _) _,.Compare (.Call (.Name _ _) [_] [] _) [_] [.Call (.Name _ _) [_] [] _] _] _) _ [] _)=_
 refine(S_if (c:=false) (Bt_or (c:=false) (e:=false) (Bt_not (c:=true) ?_) ((Bt_cmp kR (x:=strsD (sortS out)) (y:=strsD (sortS nm5)) (E_builtin1 (x:=strsD out) kR kR kD kD kR kR (E_name kR kR (allL_val h6)) (sorted_strsD hl)) (E_builtin1 (x:=strsD nm5) kR kR kD kD kR kR (E_name kR kR (allL_val h1)) (sorted_strsD kD)) (Faith.strs.ne kO _ _)).trans (by rw[hs];simp)))).trans Ssl_nil
 show ((ev fns1 glob1 (n+29)).E true sc1 (allL l) _).bind truD=_
 rw[E_isinst kR kR kR (E_name kR kR (allL_val h6))]
 rfl
end
theorem laidP_len{layers:List (List Str)}{name:Str}{rows:List (Str×Str)}{j:Nat}(h1:layers.length≤j)(h2:∀x∈layers,x.length≤j):(laidP layers name rows).length≤j+1∧∀x∈laidP layers name rows,x.length≤j+1:=by
 unfold laidP
 dsimp only
 have hat:=atP_le layers ((rows.filter fun q=>q.2==name).map (·.1))
 generalize atP layers ((rows.filter fun q=>q.2==name).map (·.1))=at' at hat
 constructor
 ·simp only[List.length_append,List.length_take,List.length_drop,List.length_cons,List.length_nil]
  omega
 ·intro x hx
  rcases zapp.mp hx with hx|hx
  ·rcases zapp.mp hx with hx|hx
   ·have:=h2 x (List.mem_of_mem_take hx);omega
   ·simp only[List.mem_singleton] at hx
    subst hx
    rw[List.length_append,List.length_singleton]
    split
    ·simp
    ·have:=h2 _ (getD_mem (d:=[]) (show at'<layers.length by omega));omega
  ·have:=h2 x (List.mem_of_mem_drop hx);omega
def layersP(out:List Str)(rows:List (Str×Str)):List (List Str):=out.foldl (fun made name=>laidP made name rows) []
section
variable{n:Nat}{l:LocB}{rows:List (Str×Str)}{lines:List (List Str)}{out:List Str}
theorem st25(h1:l "rows"=some (.val (rowsD rows)))(h6:l "merged"=some (.val (strsD out)))(hr:rows.length≤1000)(hl:out.length≤50):(ev fns1 glob1 (n+30)).S true sc1 l (ls1 25)=some (.next,setL l "layers" (.val (laysD (layersP out rows)))):=by
 have hlim:lim=1000000:=rfl
 show (ev fns1 glob1 (n+30)).S true sc1 l (.Assign [_] (.Call (.Name _ _) [.Lambda _ _ _ _,_,_] [] _) _)=_
 refine S_assign (E_reduce3 (ds:=out.map .str) (as:=[]) kR kR kR kR (E_name kR kR (purL_val h6)) kR ?_) kR kR
 refine fold_map (ea:=laysD) (ex:= .str) (step:=fun made name=>laidP made name rows) (Inv:=fun j made=>made.length≤j∧∀w∈made,w.length≤j) out 0 [] ⟨by simp,by simp⟩ ?_
 rintro j made x hx _ hj ⟨i1,i2⟩
 refine⟨(applyD_eq (l':=setL (setL (compLoc _ (purL l)) "name" (.str x)) "made" (laysD made)) rfl).trans ?_,laidP_len i1 i2⟩
 refine E_call3 (x:=laysD made) (y:= .str x) (z:=rowsD rows) kR kR kD kD kR kR kR kR kR kR (E_name kR kR ?_) ?_
 ·exact(sN).trans ((comp_get kR kD).trans (purL_val h1))
 ·exact laid_val made x rows kO (fun o ho=>by have:=i2 o ho;omega) hr
theorem E_index{m:Nat}{lp:Loc}{sc:Scope}{k:Bool}{a b:Expr}{ap cp:Pos}{x:Str}{i:Nat}(g1:isCallE a=false)(g2:(ap.endLine==cp.line)=true)(g3:PySem.W.isStarred b=false)(h1:(ev fns1 glob1 m).E k sc lp a=some (strsD out))(h2:(ev fns1 glob1 m).E k sc lp b=some (.str x))(hl:out.length≤50)(hi:out.findIdx? (fun y=>y==x)=some i):(ev fns1 glob1 (m+1)).E k sc lp (.Call (.Attribute a "index" ap) [b] [] cp)=some (.int (i:Int)):=by
 refine E_meth g1 g2 kD g3 h1 h2 ?_
 show (if (out.map D.str).length≤1000∧((out.map D.str).all fun y=>D.like y (.str x)&&decide (D.dep y≤20))=true then ((out.map D.str).findIdx? fun y=>D.beq y (.str x)).map (fun k=>D.int k) else none)=_
 rw[if_pos ⟨by simp;omega,by
  rw[List.all_eq_true]
  intro y hy
  obtain⟨z,_,rfl⟩:=zmap.mp hy
  simp[D.like,D.dep]⟩,List.findIdx?_map]
 rw[show ((fun y=>D.beq y (.str x)) ∘ D.str)=fun y=>y==x from rfl,hi];rfl
theorem st26{lg:Nat}{layers:List (List Str)}(h1:l "rows"=some (.val (rowsD rows)))(h6:l "merged"=some (.val (strsD out)))(h7:l "layers"=some (.val (laysD layers)))(h8:l "longest"=some (.val (.int (lg:Int))))(hr:rows.length≤1000)(hl:out.length≤50)(hll:layers.length≤1000)(hi:∀q∈rows,∃i j,out.findIdx? (fun y=>y==q.1)=some i∧out.findIdx? (fun y=>y==q.2)=some j∧i≤j)(hg:layers.length=lg):(ev fns1 glob1 (n+30)).S true sc1 l (ls1 26)=some (.next,l):=by
 have hlim:lim=1000000:=rfl
 show (ev fns1 glob1 (n+30)).S true sc1 l (.If (.BoolOp _ [.Compare (.ListComp _ _ _ _) [_] [_] _,.Compare (.Call (.Name _ _) [_] [] _) [_] [_] _] _) _ [] _)=_
 refine(S_if (c:=false) (Bt_or (c:=false) (e:=false) ((Bt_cmp kR (x:=rowsD (rows.filter fun _=>false)) (y:= .list (([]:List (Str×Str)).map rowD)) (comp1 rowD (fun _=>false) rowD rows (itL (E_name kR kR (allL_val h1))) kR kR ?_ (fun q hq h=>by cases h) kO) kR (Faith.rows.ne kO _ _)).trans (by simp)) ((Bt_cmp kR (x:= .int (layers.length:Int)) (y:= .int (lg:Int)) ((len_val (ds:=layers.map strsD) kR kR kR (E_name kR kR (allL_val h7)) (by simp;omega)).trans (by rw[List.length_map])) (E_name kR kR (allL_val h8)) (natFaith.ne kO _ _)).trans (by rw[hg];simp)))).trans Ssl_nil
 intro q hq
 obtain⟨i,j,e1,e2,e3⟩:=hi q hq
 refine T_one (Bt_cmp kR (x:= .int (i:Int)) (y:= .int (j:Int)) (E_index kR kR kR (E_name kR kR ?_) kR hl e1) (E_index kR kR kR (E_name kR kR ?_) kR hl e2) ?_)
 ·exact(comp_get kR kD).trans (allL_val h6)
 ·exact(comp_get kR kD).trans (allL_val h6)
 ·show some (decide ((i:Int) > (j:Int)))=_
  rw[decide_eq_false kO]
theorem st27{layers:List (List Str)}(h1:l "rows"=some (.val (rowsD rows)))(h7:l "layers"=some (.val (laysD layers)))(hr:rows.length≤1000)(hll:layers.length≤1000)(hn:∀ly∈layers,∀q∈rows,¬(q.1∈ly∧q.2∈ly)):(ev fns1 glob1 (n+30)).S true sc1 l (ls1 27)=some (.ret (.bool true),l):=by
 have hlim:lim=1000000:=rfl
 have e:(layers.flatMap fun ly=>if true then ((rows.filter fun q=>decide (q.1∈ly)&&decide (q.2∈ly)).map rowD) else [])=([]:List (Str×Str)).map rowD:=by
  refine List.flatMap_eq_nil_iff.mpr fun ly hly=> ?_
  rw[if_pos rfl,List.filter_eq_nil_iff.mpr]
  ·rfl
  ·intro q hq h
   rw[Bool.and_eq_true,decide_eq_true_eq,decide_eq_true_eq] at h
   exact hn ly hly q hq h
 show (ev fns1 glob1 (n+30)).S true sc1 l (.Return (some (.Compare (.ListComp _ _ _ _) [_] [_] _)) _)=_
 refine S_ret (E_cmp kR (x:= .list (([]:List (Str×Str)).map rowD)) (y:= .list (([]:List (Str×Str)).map rowD)) ((comp2 strsD (fun _=>true) (fun _=>rows) rowD (fun ly q=>decide (q.1∈ly)&&decide (q.2∈ly)) (fun _ q=>rowD q) layers (itL (E_name kR kR (allL_val h7))) kR kR (fun q hq=>by kernel_rfl) (fun q hq=>by kernel_rfl) ?_ ?_ (fun q hq _ p hp _=>by kernel_rfl) ?_).trans ?_) kR ((Faith.row.list.eq kO [] []).trans (by simp)))
 ·intro ly hly _
  refine itL (E_name kR kR ?_)
  exact(comp_get kR kD).trans (allL_val h1)
 ·intro ly hly _ q hq
  exact T_one (Bt_and (Bt_cmp kR (x:= .str q.1) (y:=strsD ly) kR kR (Faith.str.isIn kO _ _)) (Bt_cmp kR (x:= .str q.2) (y:=strsD ly) kR kR (Faith.str.isIn kO _ _)))
 ·rw[e];simp
 ·rw[e]
end
abbrev Cx.bare(C:Cx):Cx:={ C with fns:=[] }
section
variable{C:Cx}{n:Nat}{r:Ev}{k:Bool}{A:Around}{env:Env}{Y Y' W J:List Addr}{OL N:List (Str×Addr)}{l l':LocB}{s s' s₁ s'' s1 s2:Shared}{Z Z':Addr→Prop}
theorem Base.bare(b:Base C):Base C.bare where
 g:=b.g
 b:=b.b
 nolimit:=b.nolimit
 hP:=b.hP
 fn:=fun x f e=>by cases e
 okf:=fun x f e=>by cases e
 gl:=b.gl
 bi:=b.bi
 sys:=b.sys
 red:=b.red
 hd:=b.hd
 bat:=b.bat
 exc:=b.exc
theorem Gr.full(g:Gr C.bare s)(h:0<s.toks):Gr C s:=⟨g.keep,g.tab,fun _=>h⟩
theorem FS.full(bs:Base C)(fs:FS C.bare n k A env Y OL l s)(h:0<s.toks):FS C n k A env Y OL l s where
 pre:=⟨bs,fs.pre.a,⟨fs.pre.eo.kind,fs.pre.eo.glob,fs.pre.eo.bi,fs.pre.eo.cells,fs.pre.eo.lam⟩,fs.pre.gr.full h,fs.pre.hP,fs.pre.hY,fs.pre.hYs,fs.pre.fm,fs.pre.hc,fs.pre.loc⟩
 hP:=fs.hP
 cY:=fs.cY
 own:=⟨fs.own.ne,fs.own.code,fs.own.ex⟩
 wY:=fs.wY
 nY:=fs.nY
 ap:=fs.ap
 cw:=fs.cw
 lst:=fs.lst
theorem ints_well{prog:Program}{w:World}{P:Params}{h:Heap}:∀{vs:List Value} {ns:List Int},WellAll P h vs (ofPys (ns.map .int))→∀H:HV,Rs prog w H vs (ns.map .int)
 |_,[],.nil,_=> .nil
 |_,_::_,.cons (.int i t) r,H=> .cons (.int i t) (ints_well r H)
theorem script_of{prog:Program}{w:World}{P:Params}{h:Heap}{la:Addr}{ns:List Int}(w1:Well P h (.ref la) (ofPy (.list (ns.map .int)))):∃vs,h.get? la=some (lstO vs 0)∧∀H:HV,Rs prog w H vs (ns.map .int):=by
 cases w1 with
 |list e a=>exact⟨_,e,ints_well a⟩
abbrev EndQ1(C:Cx)(s₁:Shared)(f:Flow)(s':Shared):Prop:=f= .ret (.bool true)∧Gr C.bare s'∧∃h tk,s'={ s₁ with heap:=h,toks:=tk }
theorem law_enter{fn:Fn}{fa la:Addr}{o:Obj}{pm doc:Value}{vs:List Value}{ns:List Int}{c:ClaimW}{cl:Str→Option Addr}{mean:ExcName→Option Value}{args:List WData}(bs:Base C)(h0:C.g0=ghostOf s₁.heap [(C.c,C.P)])(hP:s₁.heap.get? C.P=some (tabObj #[]))(hg:s₁.gens= #[])
  (okf:okFn fn=true) (hn:fn.names=(["script"]:List Str)) (ho:s₁.heap.get? fa=some o) (hd:o.data= .func (docDef "law" fn.params fn.body fn.scope pm (.ref C.c) doc)) (hcd:s₁.heap.CodeRec (.ref C.c) "law") (hlq:("law":Str)++(".<locals>.":Str)++("<lambda>":Str)=C.lq)
  (hL:s₁.heap.get? la=some (lstO vs 0)) (hI:∀H:HV,Rs C.prog C.w H vs (ns.map .int)) (hpost:c.post args (.bool true) args=true) (hr:∀x,c.raises args x=false) (room:n≤190)
  (body:∀env s,KP C.bare s₁ s→FS C.bare n true (callerA.deeper env) env (frameW env++[C.P]) [] (setL (fun _=>none) "script" (.val (.list (ns.map .int)))) s→env.scope=fn.scope→env.frame=some env.locals→(∀p∈env.cells,p.2∈frameW env)→
   wpAny C.M (callerA.deeper env) (execs fn.body env) (EndQ1 C s₁) NE s):
  codeAny C.M callerA (.call (.ref fa) ⟨[.ref la],[]⟩) (fun r s'=>GoodW c cl mean args { s₁ with heap:=ghostOf s₁.heap [(C.c,C.P)] } r s'∧GrownAll [(C.c,C.P)] s'.heap) s₁:=by
 have ok:=okFn_of okf
 have gr:Gr C.bare s₁:=⟨fun b o e=>by
  have e:C.g0.get? b=some o:=e
  rw[h0] at e;exact of_hideAll _ e,⟨#[],hP,trivial,fun pos cv e=>by cases e⟩,fun e=>by cases e⟩
 have hl0:bindP fn.names [.list (ns.map .int)]=some (setL (fun _=>none) "script" (.val (.list (ns.map .int)))):=by rw[hn];rfl
 have hcm:claimMargin=300:=by decide+kernel
 have hroom:CRoom n callerA:=⟨rfl,by show 1+claimMargin+1+3 * n<900;rw[hcm];omega,by show 4+4+40 * n<9000;omega⟩
 have hlP:la≠C.P:=fun e=>by rw[e,hP] at hL;cases hL
 have rd:RDs C.bare s₁.heap [C.P] [.ref la] [.list (ns.map .int)]:= .cons (.list (n:=0) (view_of hL (by simpa using hlP)) (hI _)) .nil
 refine codeAny_call_function (fd:=docDef "law" fn.params fn.body fn.scope pm (.ref C.c) doc) (body:=fn.body) (by show 1+claimMargin<recursionLimit;rw[hcm];decide) ho hd ok.co ok.gen rfl hcd ?_
 have hlen:fn.names.length=[Value.ref la].length:=by rw[hn];rfl
 rw[bindArgs_plain ok.plain rfl (by show fn.params.args.length=_;simpa [Fn.names] using hlen)]
 refine wpAny_pure (ne ?_)
 refine newFrame (C:=C.bare) (k:=true) (n:=n) (A:=callerA) (Y:=[C.P]) ok bs.bare gr (by simp) (fun a ha=>by simp at ha;subst ha;exact bs.hP) (fun a ha=>by simp at ha;subst ha;exact⟨_,hP⟩) (fun env=>hroom.deeper) hl0 rd (fun _=>⟨rfl,hlq⟩)
  fun env s1 kp fs hn' hc hsc hfr=>⟨bs.nolimit.keeps (gr.kp bs.bare kp).keep,codeAny_func ?_⟩
 refine wpAny_mono (body env s1 kp fs hsc hfr hc) (fun f s' hq=> ?_) fun _ _ x=>x.elim
 obtain⟨rfl,g',h',tk,rfl⟩:=hq
 refine⟨⟨.inl ⟨.bool true,.bool true,[],rfl,hr,.bool true,hpost,fun _=>⟨List.nodup_nil,fun a ha=>nomatch ha⟩⟩,fun b o e=>g'.keep b o (by rw[←h0] at e;exact e),rfl,hg⟩,?_,trivial⟩
 obtain⟨ps,e,_⟩:=g'.tab
 exact⟨ps,e⟩
end
section
variable{C:Cx}{n:Nat}{r:Ev}{k:Bool}{A:Around}{env:Env}{Y Y':List Addr}{OL N:List (Str×Addr)}{l l':LocB}{s s' s1 s2 s₁:Shared}
theorem unpack2{v:Value}{a b:D}{Q:List Value→Shared→Prop}(hh:A.handled=none)(hY:∀a∈Y,a<s.heap.objs.size)(rv:RD C s.heap Y v (.list [a,b]))
  (q:∀u1 u2 s',KP C s s'→RD C s'.heap Y u1 a→RD C s'.heap Y u2 b→Q [u1,u2] s'):wpAny C.M A (unpackItems v 2 none) Q NE s:=by
 have rv':=rv
 obtain⟨t,vs,m,rfl,ht,rs⟩:=rv'.list_inv
 have hty:s.TypeIs (.ref t) "list":=(isList_of ht).typeIs
 unfold unpackItems
 refine wpAny_bind ?_
 unfold notIterableAtAll
 refine wpAny_bind (wpAny_specialOf hty PySem.F.slot_list_iter.lookup ?_)
 refine wpAny_pure ?_
 simp only[Bool.false_eq_true,if_false]
 refine wpAny_bind (wpAny_holding (iter_sound hh hY rv rfl fun h1 hk1 it1=> ?_))
 generalize hI:s.heap.objs.size=I at it1
 have hIn:s.heap.get? I=none:=hI▸newAddr _
 have hne:∀b o,s.heap.get? b=some o→b≠I:=fun b o e h=>by rw[h,hIn] at e;cases e
 have hsub:∀h:Heap,∀a o,view h (I::Y) a=some o→view h Y a=some o:=fun h=>view_sub fun a ha=>zmC _ ha
 refine wpAny_bind (wpAny_holding ?_)
 show wpAny _ _ (pyNext (.ref I) >>=_) _ _ _
 refine wpAny_bind (next_cons zmS it1 fun u1 h2 t2 ht2 hk2 it2 r1=> ?_)
 show wpAny _ _ ((holding [u1] (draw (.ref I) 1)) >>=fun x=>pure (u1::x)) _ _ _
 refine wpAny_bind (wpAny_holding ?_)
 show wpAny _ _ (pyNext (.ref I) >>=_) _ _ _
 refine wpAny_bind (next_cons zmS it2 fun u2 h3 t3 ht3 hk3 it3 r2=> ?_)
 show wpAny _ _ ((holding [u2] (draw (.ref I) 0)) >>=fun x=>pure (u2::x)) _ _ _
 refine wpAny_bind (wpAny_holding ?_)
 show wpAny _ _ (pure []) _ _ _
 refine wpAny_pure (wpAny_pure (wpAny_pure ?_))
 rw[if_neg (by simp)]
 refine wpAny_bind (wpAny_holding (next_nil it3 fun h4 t4 ht4 hk4=> ?_))
 simp only[Option.isSome_none,Bool.false_eq_true,if_false]
 refine wpAny_pure (q u1 u2 _ (KP.of (znT (znT ht2 ht3) ht4) fun b o e=>hk4 b o (hne b o e) (hk3 b o (hne b o e) (hk2 b o (hne b o e) (hk1 b o e)))) ?_ ?_)
 ·refine Mine.R.mono (fun a o e=>hsub _ _ _ (view_keep (fun b o hb e=>hk4 b o (fun h=>hb (by rw[h];exact zmS)) (hk3 b o (fun h=>hb (by rw[h];exact zmS)) e)) a o e)) r1
 ·refine Mine.R.mono (fun a o e=>hsub _ _ _ (view_keep (fun b o hb e=>hk4 b o (fun h=>hb (by rw[h];exact zmS)) e) a o e)) r2
theorem tuple_stmt(S:SE C n r){x y:Str}{e:Expr}{a b:D}{kd:Nat}{p1 p2 p3 p4:Pos}{Q:Flow→Shared→Prop}{E:Value→Shared→Prop}(fs:FS C n k A env Y [] l s)(he:r.E k env.scope (purL l) e=some (.list [a,b]))(hx:env.kindOf x=some .local∨env.kindOf x=some .cell)(hy:env.kindOf y=some .local∨env.kindOf y=some .cell)
  (hst:∀Q E s,wpAny C.M A (eval e env) (fun v s'=>wpAny C.M A (assign (.Tuple [.Name x p1,.Name y p2] kd p3) env v) (fun _ s''=>Q .next s'') E s') E s→wpAny C.M A (exec (.Assign [.Tuple [.Name x p1,.Name y p2] kd p3] e p4) env) Q E s)
  (q:∀s',KW C (ZO [] env) s s'→FS C n k A env Y [] (setL (setL l x (.val a)) y (.val b)) s'→Q .next s'):
  wpAny C.M A (exec (.Assign [.Tuple [.Name x p1,.Name y p2] kd p3] e p4) env) Q E s:=by
 refine hst Q E s (ne (S.at fs.pre he fun v s1 kp1 p1' rv=>ne ?_))
 rw[arm_assign_Tuple]
 refine wpAny_bind (wpAny_standAt ?_)
 show wpAny C.M A (unpack v (assignEach [.Name x p1,.Name y p2] env)) _ NE s1
 unfold unpack
 have hh:=fs.pre.a.handled
 show wpAny C.M A (holding [v] (unpackItems v 2 none) >>=_) _ NE s1
 refine wpAny_bind (wpAny_holding (unpack2 hh p1'.lt rv fun u1 u2 s2 kp2 r1 r2=> ?_))
 have fs2:=(fs.kp kp1).kp kp2
 have hP2:=fs2.pre.hP
 refine assignInOrder_cons (wpAny_assign_Name (fs2.assign hx r1 fun s3 kw3 fs3=> ?_))
 have hZ:∀b,ZO [] env b→b∈olA []++Y:=fun b hb=>by
  have:b∈frameW env:=by simpa using hb
  exact zmr _ (fs.wY b this)
 refine assignInOrder_cons (wpAny_assign_Name (fs3.assign hy (RD.kw kw3 hP2 hZ r2) fun s4 kw4 fs4=>assignInOrder_nil ?_))
 exact q s4 (((KP.kw (kp1.trans kp2) (Z:=ZO [] env)).trans kw3).trans kw4) fs4
end
section
variable{C:Cx}{n:Nat}{r:Ev}{k:Bool}{A:Around}{env:Env}{Y Y':List Addr}{OL N:List (Str×Addr)}{l l':LocB}{s s' s1 s2 s₁:Shared}
theorem FS.drop(fs:FS C n k A env Y OL l s)(h:∀x ds,l x≠some (.own ds)):FS C n k A env (olA OL++Y) [] l s where
 pre:=fs.pre
 hP:=zmr _ fs.hP
 cY:=fun p hp=>zmr _ (fs.cY p hp)
 own:=⟨fun a ha=>fs.own.ne a (zmr _ (by simpa using ha)),fun a ha=>fs.own.code a (zmr _ (by simpa using ha)),fun a ha=>fs.own.ex a (zmr _ (by simpa using ha))⟩
 wY:=fun a ha=>zmr _ (fs.wY a ha)
 nY:=fun p hp=>by cases hp
 ap:=List.Pairwise.nil
 cw:=fs.cw
 lst:=fun x ds e=>absurd e (h x ds)
def LA(C:Cx)(n:Nat)(A:Around)(env:Env)(s₁:Shared)(l:LocB)(s:Shared):Prop:=(∃Y,FS C n true A env Y [] l s)∧∃h tk,s={ s₁ with heap:=h,toks:=tk }
theorem LA.kw{Z:Addr→Prop}{s₁ s s':Shared}(x:∃h tk,s={ s₁ with heap:=h,toks:=tk })(k:KW C Z s s'):∃h tk,s'={ s₁ with heap:=h,toks:=tk }:=by
 obtain⟨h,tk,rfl⟩:=x
 obtain⟨h1,t1,rfl,_⟩:=k
 exact⟨h1,t1,rfl⟩
def noOwn(l:LocB):Prop:=∀x ds,l x≠some (.own ds)
theorem noOwn.set(h:noOwn l){x:Str}{d:D}:noOwn (setL l x (.val d)):=fun y ds e=>by
 unfold setL at e
 split at e
 ·cases e
 ·exact h y ds e
theorem seg_run(S:Snd C n r){ss rest:List Stmt}{Q:Flow→Shared→Prop}{E:Value→Shared→Prop}(h:LA C n A env s₁ l s)(hs:Ssl r true env.scope l ss=some (.next,l'))(hn:noOwn l')(q:∀s',LA C n A env s₁ l' s'→wpAny C.M A (execs rest env) Q E s'):wpAny C.M A (execs (ss++rest) env) Q E s:=by
 obtain⟨⟨Y,fs⟩,hh⟩:=h
 exact Ssl_app S.S rest ss [] l l' .next s Q E fs hs fun s' N hN kw fs'=>q s' ⟨⟨_,fs'.drop hn⟩,LA.kw hh kw⟩
theorem seg_end(S:Snd C n r){ss:List Stmt}{Q:Flow→Shared→Prop}{E:Value→Shared→Prop}{d:D}(h:LA C n A env s₁ l s)(hs:Ssl r true env.scope l ss=some (.ret d,l'))(q:∀v s' (Y:List Addr),(∃h tk,s'={ s₁ with heap:=h,toks:=tk })→RD C s'.heap Y v d→Gr C s'→Q (.ret v) s'):wpAny C.M A (execs ss env) Q E s:=by
 obtain⟨⟨Y,fs⟩,hh⟩:=h
 refine Ssl_sound S.S ss [] l l' (.ret d) s Q E fs hs fun v s' kw rd=>q v s' Y (LA.kw hh kw) rd ?_
 refine fs.pre.gr.kw fs.pre.bs kw fun b hb=> ?_
 have:b∈frameW env:=by simpa using hb
 exact fs.pre.hY b (zmr _ (fs.wY b this))
theorem str_elem{x:Str}{p:Pos}{Q E:Value→Shared→Prop}(q:Q (.str x s.toks) { s with toks:=s.toks+1 }):wpAny C.M A (eval (.Constant (.str x) 0 p) env) Q E s:=by
 rw[eval_Constant]
 exact wpAny_mkText q
theorem names_stmt{x:Str}{x1 x2 x3 x4 x5:Str}{p0 p1 p2 p3 p4 p5 p6 p7:Pos}{Q:Flow→Shared→Prop}{E:Value→Shared→Prop}(h:LA C n A env s₁ l s)(hx:env.kindOf x=some .local∨env.kindOf x=some .cell)
  (q:∀s',0<s'.toks→LA C n A env s₁ (setL l x (.val (strsD [x1,x2,x3,x4,x5]))) s'→Q .next s'):
  wpAny C.M A (exec (.Assign [.Name x p0] (.List [.Constant (.str x1) 0 p1,.Constant (.str x2) 0 p2,.Constant (.str x3) 0 p3,.Constant (.str x4) 0 p4,.Constant (.str x5) 0 p5] p6) p7) env) Q E s:=by
 obtain⟨⟨Y,fs⟩,hh⟩:=h
 refine wpAny_Assign_Name ?_ (by rfl)
 refine wpAny_List ?_
 have pl:∀(x:Str) (p:Pos),isStarred (.Constant (.str x) 0 p)=false:=fun _ _=>rfl
 refine args_cons (wpAny_mono (str_elem (args_cons (wpAny_mono (str_elem (args_cons (wpAny_mono (str_elem (args_cons (wpAny_mono (str_elem (args_cons (wpAny_mono (str_elem (args_nil ⟨by simp;decide,?_⟩)) (fun _ _ x=>x) fun _ _ x=>x) (starEach_plain (pl _ _)))) (fun _ _ x=>x) fun _ _ x=>x) (starEach_plain (pl _ _)))) (fun _ _ x=>x) fun _ _ x=>x) (starEach_plain (pl _ _)))) (fun _ _ x=>x) fun _ _ x=>x) (starEach_plain (pl _ _)))) (fun _ _ x=>x) fun _ _ x=>x) (starEach_plain (pl _ _))
 show wpAny C.M A (storeName env x (.ref s.heap.objs.size)) (fun _=>Q .next) E { s with heap:=s.heap.push (lstO [.str x1 s.toks,.str x2 (s.toks+1),.str x3 (s.toks+1+1),.str x4 (s.toks+1+1+1),.str x5 (s.toks+1+1+1+1)] 0),toks:=s.toks+1+1+1+1+1 }
 have kp:KP C s ({ s with heap:=s.heap.push (lstO [.str x1 s.toks,.str x2 (s.toks+1),.str x3 (s.toks+1+1),.str x4 (s.toks+1+1+1),.str x5 (s.toks+1+1+1+1)] 0),toks:=s.toks+1+1+1+1+1 }:Shared):=KP.push kO
 have rd:RD C ({ s with heap:=s.heap.push (lstO [.str x1 s.toks,.str x2 (s.toks+1),.str x3 (s.toks+1+1),.str x4 (s.toks+1+1+1),.str x5 (s.toks+1+1+1+1)] 0),toks:=s.toks+1+1+1+1+1 }:Shared).heap (olA []++Y) (.ref s.heap.objs.size) (strsD [x1,x2,x3,x4,x5]):=
  .list (n:=0) (new_view (tk:=s.toks) (by simpa using fs.pre.lt) rfl) (.cons (.str _ _) (.cons (.str _ _) (.cons (.str _ _) (.cons (.str _ _) (.cons (.str _ _) .nil)))))
 have hpos:0<({ s with heap:=s.heap.push (lstO [.str x1 s.toks,.str x2 (s.toks+1),.str x3 (s.toks+1+1),.str x4 (s.toks+1+1+1),.str x5 (s.toks+1+1+1+1)] 0),toks:=s.toks+1+1+1+1+1 }:Shared).toks:=by show 0<s.toks+1+1+1+1+1;omega
 generalize ({ s with heap:=s.heap.push (lstO [.str x1 s.toks,.str x2 (s.toks+1),.str x3 (s.toks+1+1),.str x4 (s.toks+1+1+1),.str x5 (s.toks+1+1+1+1)] 0),toks:=s.toks+1+1+1+1+1 }:Shared)=s2 at kp rd hpos ⊢
 have fs2:=fs.kp kp
 exact ne (fs2.assign hx rd fun s3 kw3 fs3=>q s3 (Nat.lt_of_lt_of_le hpos kw3.toks) ⟨⟨Y,fs3⟩,LA.kw (LA.kw hh (KP.kw kp (Z:=fun _=>False))) kw3⟩)
theorem LA.full{C:Cx}(bs:Base C)(h:LA C.bare n A env s₁ l s)(ht:0<s.toks):LA C n A env s₁ l s:=by
 obtain⟨⟨Y,fs⟩,hh⟩:=h
 exact⟨⟨Y,fs.full bs ht⟩,hh⟩
end
structure Plain1(xs:List Int):Prop where
 ne:waysP (rowsP xs)≠[]
 len:(waysP (rowsP xs)).length≤10000
 w5:∀w∈waysP (rowsP xs),w.length≤5
 nd:((bestP (waysP (rowsP xs))).map (·.1)).Nodup
 lne:linesP nm5 (bestP (waysP (rowsP xs)))≠[]
 llen:(linesP nm5 (bestP (waysP (rowsP xs)))).length≤100
 lin:∀x∈linesP nm5 (bestP (waysP (rowsP xs))),x.length≤100
 cl:(catP (linesP nm5 (bestP (waysP (rowsP xs))))).length<64
 cs:sortS (catP (linesP nm5 (bestP (waysP (rowsP xs)))))=sortS nm5
 wide:(linesP nm5 (bestP (waysP (rowsP xs)))).length=(greatP (pairsP xs)).1
 mg:∃m out,m≤900∧mergeP m (linesP nm5 (bestP (waysP (rowsP xs)))++acrossP (rowsP xs) (linesP nm5 (bestP (waysP (rowsP xs)))))=some out∧out.length≤50∧out≠[]∧sortS out=sortS nm5∧
  (∀q∈rowsP xs,∃i j,out.findIdx? (fun y=>y==q.1)=some i∧out.findIdx? (fun y=>y==q.2)=some j∧i≤j)∧(layersP out (rowsP xs)).length≤1000∧(layersP out (rowsP xs)).length=(greatP (pairsP xs)).2∧∀ly∈layersP out (rowsP xs),∀q∈rowsP xs,¬(q.1∈ly∧q.2∈ly)
theorem msc1:MSc merge1.scope where
 nm:=by decide+kernel
 ok:=fun p2 p3 p4=>by kernel_rfl
theorem law1_split:law1.body=[ls1 0,ls1 1,ls1 2]++(ls1 3::([ls1 4,ls1 5,ls1 6,ls1 7,ls1 8,ls1 9]++(ls1 10::([ls1 11,ls1 12,ls1 13,ls1 14,ls1 15,ls1 16,ls1 17,ls1 18,ls1 19]++(ls1 20::([ls1 21]++(ls1 22::ls1 23::[ls1 24,ls1 25,ls1 26,ls1 27]))))))):=kR
section
variable{C:Cx}{clR clP:Addr}{s₁:Shared}{ns:List Int}
theorem law1_body(bs:Base C)(hf:C.fns=fns1)(hg:C.glob=glob1)(X:ExcK C clR clP)(hns:ns.length≤1000)(P:Plain1 (numsP ns)):
  ∀env s,KP C.bare s₁ s→FS C.bare 60 true (callerA.deeper env) env (frameW env++[C.P]) [] (setL (fun _=>none) "script" (.val (.list (ns.map .int)))) s→env.scope=law1.scope→env.frame=some env.locals→(∀p∈env.cells,p.2∈frameW env)→
   wpAny C.M (callerA.deeper env) (execs law1.body env) (EndQ1 C s₁) NE s:=by
 intro env s kp fs hsc hef hcells
 have S0:Snd C.bare 60 (ev [] glob1 60):=by
  have:=snd_all bs.bare 60 60 nL
  rw[show C.bare.glob=glob1 from hg] at this
  exact this
 have S:Snd C 60 (ev fns1 glob1 60):=by
  have:=snd_all bs 60 60 nL
  rw[hf,hg] at this
  exact this
 have hxs:=numsP_len ns
 generalize hL0:setL (fun _=>none) "script" (B.val (.list (ns.map .int)))=L0 at fs
 have n0:noOwn L0:=by
  rw[←hL0]
  intro x ds e
  unfold setL at e
  split at e <;> cases e
 have la0:LA C.bare 60 (callerA.deeper env) env s₁ L0 s:=by
  obtain⟨h',tk,rfl,_⟩:=kp
  exact⟨⟨_,fs⟩,h',tk,rfl⟩
 have v0:L0 "script"=some (.val (.list (ns.map .int))):=by rw[←hL0];exact setL_eq
 clear hL0 fs kp
 rw[law1_split]
 have e0:=st0 (glob:=glob1) (n:=40) v0 hns
 have e1:=st1 (glob:=glob1) (n:=40) (l:=setL L0 "taken" (.val (.list ((ns.take 60).map .int))))
 have e2:=st2 (glob:=glob1) (n:=40) (ns:=ns) (l:=setL (setL L0 "taken" (.val (.list ((ns.take 60).map .int)))) "own" (.val (.list (ownL.map .int)))) ((sN).trans setL_eq) setL_eq
 refine seg_run (C:=C.bare) (l':=setL (setL (setL L0 "taken" (.val (.list ((ns.take 60).map .int)))) "own" (.val (.list (ownL.map .int)))) "numbers" (.val (.list ((numsP ns).map .int)))) S0 la0 (by rw[hsc];exact(Ssl_next e0).trans ((Ssl_next e1).trans ((Ssl_next e2).trans Ssl_nil))) n0.set.set.set fun s1 la1=> ?_
 generalize hxn:numsP ns=xs at *
 have v1:setL (setL (setL L0 "taken" (B.val (.list ((ns.take 60).map .int)))) "own" (.val (.list (ownL.map .int)))) "numbers" (.val (.list (xs.map .int))) "numbers"=some (.val (.list (xs.map .int))):=setL_eq
 have n1:noOwn (setL (setL (setL L0 "taken" (B.val (.list ((ns.take 60).map .int)))) "own" (.val (.list (ownL.map .int)))) "numbers" (.val (.list (xs.map .int)))):=n0.set.set.set
 generalize setL (setL (setL L0 "taken" (B.val (.list ((ns.take 60).map .int)))) "own" (.val (.list (ownL.map .int)))) "numbers" (.val (.list (xs.map .int)))=L1 at la1 v1 n1
 clear e0 e1 e2 v0 n0 la0
 have hloc:∀x:Str,(env.scope.names.lookup x=some .local∨env.scope.names.lookup x=some .cell)→env.kindOf x=some .local∨env.kindOf x=some .cell:=fun x h=>h
 refine wpAny_execs_cons ?_
 show wpAny C.M _ (exec (.Assign [.Name "names" _] (.List [.Constant (.str _) 0 _,.Constant (.str _) 0 _,.Constant (.str _) 0 _,.Constant (.str _) 0 _,.Constant (.str _) 0 _] _) _) env) _ _ _
 refine names_stmt (C:=C.bare) la1 (hloc _ (by rw[hsc];decide+kernel)) fun s2 ht2 la2=> ?_
 have la2:=la2.full bs ht2
 have v2:setL L1 "names" (B.val (strsD nm5)) "numbers"=some (.val (.list (xs.map .int))):=(sN).trans v1
 have w2:setL L1 "names" (B.val (strsD nm5)) "names"=some (.val (strsD nm5)):=setL_eq
 have n2:noOwn (setL L1 "names" (B.val (strsD nm5))):=n1.set
 have la2:LA C 60 (callerA.deeper env) env s₁ (setL L1 "names" (B.val (strsD nm5))) s2:=la2
 generalize setL L1 "names" (B.val (strsD nm5))=L2 at la2 v2 w2 n2
 clear la1 v1 n1
 have a4:=st4 (n:=30) (l:=L2)
 have a5:=st5 (n:=30) (l:=setL L2 "units" (.val (.list (unitsL.map .int)))) hxs setL_eq ((sN).trans v2)
 have a6:=st6 (n:=30) (l:=setL (setL L2 "units" (.val (.list (unitsL.map .int)))) "common" (.val (.int (cmP (xs.getD 5 0))))) hxs ((sN).trans setL_eq) ((sN).trans ((sN).trans v2)) setL_eq
 generalize hL3:setL (setL L2 "units" (B.val (.list (unitsL.map .int)))) "common" (.val (.int (cmP (xs.getD 5 0))))=L3 at a5 a6
 have v3:L3 "numbers"=some (.val (.list (xs.map .int))):=by rw[←hL3];exact(sN).trans ((sN).trans v2)
 have w3:L3 "names"=some (.val (strsD nm5)):=by rw[←hL3];exact(sN).trans ((sN).trans w2)
 have n3:noOwn L3:=by rw[←hL3];exact n2.set.set
 have a7:=st7 (n:=30) (l:=setL L3 "drawn" (.val (.list ((drsP xs).map .int)))) hxs ((sN).trans v3) setL_eq
 generalize hL4:setL (setL L3 "drawn" (B.val (.list ((drsP xs).map .int)))) "modes" (.val (.list ((mosP xs).map .int)))=L4 at a7
 have v4:L4 "numbers"=some (.val (.list (xs.map .int))):=by rw[←hL4];exact(sN).trans ((sN).trans v3)
 have w4:L4 "names"=some (.val (strsD nm5)):=by rw[←hL4];exact(sN).trans ((sN).trans w3)
 have d4:L4 "drawn"=some (.val (.list ((drsP xs).map .int))):=by rw[←hL4];exact(sN).trans setL_eq
 have m4:L4 "modes"=some (.val (.list ((mosP xs).map .int))):=by rw[←hL4];exact setL_eq
 have n4:noOwn L4:=by rw[←hL4];exact n3.set.set
 have a8:=st8 (n:=30) (l:=L4)
 have a9:=st9 (n:=30) (l:=setL L4 "odd" (.val (.list (odd4.map strsD)))) hxs ((sN).trans v4) setL_eq
 generalize hL5:setL (setL L4 "odd" (B.val (.list (odd4.map strsD)))) "spoiled" (.val (.list ([spP xs 0,spP xs 1,spP xs 2,spP xs 3,[]].map strsD)))=L5 at a9
 have w5:L5 "names"=some (.val (strsD nm5)):=by rw[←hL5];exact(sN).trans ((sN).trans w4)
 have d5:L5 "drawn"=some (.val (.list ((drsP xs).map .int))):=by rw[←hL5];exact(sN).trans ((sN).trans d4)
 have m5:L5 "modes"=some (.val (.list ((mosP xs).map .int))):=by rw[←hL5];exact(sN).trans ((sN).trans m4)
 have p5:L5 "spoiled"=some (.val (.list ([spP xs 0,spP xs 1,spP xs 2,spP xs 3,[]].map strsD))):=by rw[←hL5];exact setL_eq
 have n5:noOwn L5:=by rw[←hL5];exact n4.set.set
 refine seg_run (l':=L5) S la2 (by
  rw[hsc]
  exact(Ssl_next a4).trans ((Ssl_next a5).trans ((Ssl_next a6).trans ((Ssl_next a7).trans ((Ssl_next a8).trans ((Ssl_next a9).trans Ssl_nil)))))) n5 fun s3 la3=> ?_
 clear a4 a5 a6 a7 a8 a9 hL3 hL4 hL5 la2
 refine wpAny_execs_cons ?_
 obtain⟨afh,oh,pmh,codeh,doch,hmh,hoh,hdh,hch⟩:=bs.fn "_law_heard" heard1 (by rw[hf];rfl)
 obtain⟨⟨Y3,fs3⟩,hh3⟩:=la3
 have run:=told_run (C:=C) hf (glob:=glob1) (n:=35) (b0:=bitZ (xs.getD 5 0 / 4096) 0) (b1:=bitZ (xs.getD 5 0 / 4096) 1) (b2:=bitZ (xs.getD 5 0 / 4096) 2) (b3:=bitZ (xs.getD 5 0 / 4096) 3) (moP_lt xs 0) (moP_lt xs 1) (moP_lt xs 2) (moP_lt xs 3) (moP_lt xs 4)
 obtain⟨st,g0,g1,g2⟩:=run.fun
 have hcm:claimMargin=300:=by decide+kernel
 have hroom:∀j,j≤150→CRoom j (callerA.deeper env):=fun j hj=>⟨rfl,by show 1+claimMargin+1+1+3 * j<900;rw[hcm];omega,by show 4+3+4+40 * j<9000;omega⟩
 show wpAny C.M _ (exec (.Assign [.Name "told" _] (.Call (.Name "reduce" _) [.Name "_law_heard" _,talkE (ls1 10),.Tuple [.Dict [] [] _,.List [] _,.List [] _] 0 _] [] _) _) env) _ _ _
 refine told_stmt S S.E hrd1 X hoh hdh hch hmh kD fs3 (hroom _ kO) rfl hef (hloc _ (by rw[hsc];decide+kernel)) (by show env.scope.names.lookup _=_;rw[hsc];decide+kernel) (by show env.scope.names.lookup _=_;rw[hsc];decide+kernel) (its:=(talkL xs).map .str) (st:=st) (by rw[hsc];exact st10e (n:=30) w5 m5 p5) kR g0 g2 fun s4 kw4 fs4=> ?_
 have la4:LA C 60 (callerA.deeper env) env s₁ (setL L5 "told" (.val (toldD xs))) s4:=by
  refine⟨⟨Y3,?_⟩,LA.kw hh3 kw4⟩
  have e:((talkL xs).map D.str).length=(talkL xs).length:=List.length_map _
  rw[e,g1] at fs4
  exact fs4
 clear fs3 fs4 g0 g1 g2 run
 have w6:setL L5 "told" (B.val (toldD xs)) "names"=some (.val (strsD nm5)):=(sN).trans w5
 have d6:setL L5 "told" (B.val (toldD xs)) "drawn"=some (.val (.list ((drsP xs).map .int))):=(sN).trans d5
 have m6:setL L5 "told" (B.val (toldD xs)) "modes"=some (.val (.list ((mosP xs).map .int))):=(sN).trans m5
 have p6:setL L5 "told" (B.val (toldD xs)) "spoiled"=some (.val (.list ([spP xs 0,spP xs 1,spP xs 2,spP xs 3,[]].map strsD))):=(sN).trans p5
 have t6:setL L5 "told" (B.val (toldD xs)) "told"=some (.val (toldD xs)):=setL_eq
 have n6:noOwn (setL L5 "told" (B.val (toldD xs))):=n5.set
 generalize setL L5 "told" (B.val (toldD xs))=L6 at la4 w6 d6 m6 p6 t6 n6
 have a11:=st11 (n:=30) (l:=L6) (xs:=xs) p6
 generalize hL7:setL L6 "refused" (B.val (strsD (refL xs)))=L7 at a11
 have w7:L7 "names"=some (.val (strsD nm5)):=by rw[←hL7];exact(sN).trans w6
 have d7:L7 "drawn"=some (.val (.list ((drsP xs).map .int))):=by rw[←hL7];exact(sN).trans d6
 have m7:L7 "modes"=some (.val (.list ((mosP xs).map .int))):=by rw[←hL7];exact(sN).trans m6
 have t7:L7 "told"=some (.val (toldD xs)):=by rw[←hL7];exact(sN).trans t6
 have r7:L7 "refused"=some (.val (strsD (refL xs))):=by rw[←hL7];exact setL_eq
 have n7:noOwn L7:=by rw[←hL7];exact n6.set
 have a12:=st12 (n:=30) w7 m7 r7 t7
 have a13:=st13 (n:=30) w7 t7
 generalize hL8:setL L7 "rights" (B.val (.list ((drsP xs).map .int)))=L8 at a13
 have w8:L8 "names"=some (.val (strsD nm5)):=by rw[←hL8];exact(sN).trans w7
 have d8:L8 "drawn"=some (.val (.list ((drsP xs).map .int))):=by rw[←hL8];exact(sN).trans d7
 have m8:L8 "modes"=some (.val (.list ((mosP xs).map .int))):=by rw[←hL8];exact(sN).trans m7
 have t8:L8 "told"=some (.val (toldD xs)):=by rw[←hL8];exact(sN).trans t7
 have r8:L8 "rights"=some (.val (.list ((drsP xs).map .int))):=by rw[←hL8];exact setL_eq
 have n8:noOwn L8:=by rw[←hL8];exact n7.set
 have a14:=st14 (n:=30) w8 m8 d8 t8 r8
 have a15:=st15 (n:=30) r8
 have a16:=st16 (n:=30) (l:=setL L8 "both" (.val (pairsD (bothP xs)))) ((sN).trans r8) setL_eq
 generalize hL9:setL (setL L8 "both" (B.val (pairsD (bothP xs)))) "pairs" (.val (pairsD (pairsP xs)))=L9 at a16
 have w9:L9 "names"=some (.val (strsD nm5)):=by rw[←hL9];exact(sN).trans ((sN).trans w8)
 have p9:L9 "pairs"=some (.val (pairsD (pairsP xs))):=by rw[←hL9];exact setL_eq
 have n9:noOwn L9:=by rw[←hL9];exact n8.set.set
 have a17:=st17 (n:=30) w9 p9
 generalize hL10:setL L9 "rows" (B.val (rowsD (rowsP xs)))=L10 at a17
 have w10:L10 "names"=some (.val (strsD nm5)):=by rw[←hL10];exact(sN).trans w9
 have p10:L10 "pairs"=some (.val (pairsD (pairsP xs))):=by rw[←hL10];exact(sN).trans p9
 have o10:L10 "rows"=some (.val (rowsD (rowsP xs))):=by rw[←hL10];exact setL_eq
 have n10:noOwn L10:=by rw[←hL10];exact n9.set
 have a18:=st18 (n:=30) w10 o10
 have hrl:(rowsP xs).length≤25:=by rw[rowsP,List.length_map];exact pairsP_len xs
 have hP:=P
 obtain⟨c1,c2,c3,c4,c5,c6,c7,c8,c9,c10,c11⟩:=hP
 generalize hrows:rowsP xs=rows at *
 generalize waysP rows=ways at *
 have a19:=st19 (n:=30) (l:=setL L10 "ways" (.val (waysD ways))) ((sN).trans w10) setL_eq c1 c2 c3 c4
 generalize linesP nm5 (bestP ways)=lines at *
 generalize hL11:setL (setL L10 "ways" (B.val (waysD ways))) "lines" (.val (laysD lines))=L11 at a19
 have w11:L11 "names"=some (.val (strsD nm5)):=by rw[←hL11];exact(sN).trans ((sN).trans w10)
 have p11:L11 "pairs"=some (.val (pairsD (pairsP xs))):=by rw[←hL11];exact(sN).trans ((sN).trans p10)
 have o11:L11 "rows"=some (.val (rowsD rows)):=by rw[←hL11];exact(sN).trans ((sN).trans o10)
 have i11:L11 "lines"=some (.val (laysD lines)):=by rw[←hL11];exact setL_eq
 have n11:noOwn L11:=by rw[←hL11];exact n10.set.set
 refine seg_run (l':=L11) S la4 (by
  rw[hsc]
  exact(Ssl_next a11).trans ((Ssl_next a12).trans ((Ssl_next a13).trans ((Ssl_next a14).trans ((Ssl_next a15).trans ((Ssl_next a16).trans ((Ssl_next a17).trans ((Ssl_next a18).trans ((Ssl_next a19).trans Ssl_nil))))))))) n11 fun s5 la5=> ?_
 clear a11 a12 a13 a14 a15 a16 a17 a18 a19 la4 hL7 hL8 hL9 hL10 hL11
 refine wpAny_execs_cons ?_
 obtain⟨⟨Y5,fs5⟩,hh5⟩:=la5
 show wpAny C.M _ (exec (.Assign [.Tuple [.Name "widest" _,.Name "longest" _] _ _] _ _) env) _ _ _
 refine tuple_stmt S.E fs5 (by rw[hsc];exact st20e (n:=30) p11) (hloc _ (by rw[hsc];decide+kernel)) (hloc _ (by rw[hsc];decide+kernel)) (fun Q E s h=>wpAny_Assign_stores h (by rfl) (by rfl)) fun s6 kw6 fs6=> ?_
 generalize greatP (pairsP xs)=gg at *
 generalize hL12:setL (setL L11 "widest" (B.val (.int (gg.1:Int)))) "longest" (.val (.int (gg.2:Int)))=L12 at fs6
 have la6:LA C 60 (callerA.deeper env) env s₁ L12 s6:=⟨⟨Y5,fs6⟩,LA.kw hh5 kw6⟩
 have w12:L12 "names"=some (.val (strsD nm5)):=by rw[←hL12];exact(sN).trans ((sN).trans w11)
 have o12:L12 "rows"=some (.val (rowsD rows)):=by rw[←hL12];exact(sN).trans ((sN).trans o11)
 have i12:L12 "lines"=some (.val (laysD lines)):=by rw[←hL12];exact(sN).trans ((sN).trans i11)
 have f12:L12 "widest"=some (.val (.int (gg.1:Int))):=by rw[←hL12];exact(sN).trans setL_eq
 have g12:L12 "longest"=some (.val (.int (gg.2:Int))):=by rw[←hL12];exact setL_eq
 have n12:noOwn L12:=by rw[←hL12];exact n11.set.set
 clear fs5 fs6 kw6 hh5 hL12
 have a21:=st21 (n:=30) w12 i12 f12 c5 c6 c8 c9 c10
 refine seg_run (l':=L12) S la6 (by rw[hsc];exact(Ssl_next a21).trans Ssl_nil) n12 fun s7 la7=> ?_
 clear a21 la6
 obtain⟨mm,out,b1,b2,b3,b4,b5,b6,b7,b8,b9⟩:=c11
 refine wpAny_execs_cons ?_
 obtain⟨⟨Y7,fs7⟩,hh7⟩:=la7
 have aok:AOk 61 (callerA.deeper env):=⟨rfl,by show 1+claimMargin+1+3 * 61<900;rw[hcm];omega,by show 4+3+40 * 61<9000;omega⟩
 have hkl:∀ce:Env,ce.scope=ownSc env.scope (cSc (compOf (ls1 22)))→ce.kindOf "list"=some .globalImplicit:=fun ce h=>by
  show ce.scope.names.lookup _=_
  rw[h,hsc];decide+kernel
 have hkl2:∀ce:Env,ce.scope=ownSc env.scope (cSc (compOf (ls1 23)))→ce.kindOf "list"=some .globalImplicit:=fun ce h=>by
  show ce.scope.names.lookup _=_
  rw[h,hsc];decide+kernel
 show wpAny C.M _ (exec (.Assign [.Name "across" _] (.ListComp (.Call (.Name "list" _) [cElt (compOf (ls1 22))] [] _) (cGen (compOf (ls1 22))::[]) (cSc (compOf (ls1 22))) _) _) env) _ _ _
 have k22:=st22c (n:=30) (l:=L12) o12 i12 kO kO
 have k23:=fun(l:LocB) (h:l "lines"=some (.val (laysD lines)))=>st23c (n:=30) (l:=l) h kO (fun x hx=>by have:=c7 x hx;omega)
 refine across_stmt (xss:=acrossP rows lines) (its:=rows.map rowD) (d:=rowsD rows) (emitD:=fun l'=>((ev fns1 glob1 60).E true (ownSc sc1 (cSc (compOf (ls1 22)))) l' (cElt (compOf (ls1 22)))).bind strL) S.E aok (fun ce hce=> ?_) fs7 (by rw[hsc];exact E_name (n:=59) kR kR (purL_val o12)) rfl (by rw[hsc];kernel_rfl) (by rw[hsc];exact k22) ?_ ?_ (by show env.scope.names.lookup _=_;rw[hsc];decide+kernel) fun hs s8 kw8 fs8 ll8 hn8 nd8=> ?_
 ·have hce':ce.scope=ownSc sc1 (cSc (compOf (ls1 22))):=by rw[hce,hsc]
  rw[←hce']
  exact fresh_list S.E (hkl ce hce) kR
 ·show (acrossP rows lines).length≤lim
  unfold acrossP
  rw[List.length_map]
  have hlim:lim=1000000:=rfl
  exact znT (List.length_filter_le _ _) kO
 ·have hkd:=fs7.pre.eo.kind
  show (pure (env.blockKind== .function&&env.kindOf ("across":Str)==some .local&&_&& !((cSc (compOf (ls1 22))).names.any fun(n,k)=>n==("across":Str)&&(k== .local||k== .cell))):Sem Bool)=pure true
  have e1:env.blockKind= .function:=by
   unfold Env.blockKind
   rw[hsc];kernel_rfl
  have e2:env.kindOf ("across":Str)=some .local:=by show env.scope.names.lookup _=_;rw[hsc];decide+kernel
  rw[e1,e2]
  kernel_rfl
 have w13:setL L12 "across" (B.val (.list (opqs hs))) "names"=some (.val (strsD nm5)):=(sN).trans w12
 have o13:setL L12 "across" (B.val (.list (opqs hs))) "rows"=some (.val (rowsD rows)):=(sN).trans o12
 have i13:setL L12 "across" (B.val (.list (opqs hs))) "lines"=some (.val (laysD lines)):=(sN).trans i12
 have g13:setL L12 "across" (B.val (.list (opqs hs))) "longest"=some (.val (.int (gg.2:Int))):=(sN).trans g12
 have y13:setL L12 "across" (B.val (.list (opqs hs))) "across"=some (.val (.list (opqs hs))):=setL_eq
 have n13:noOwn (setL L12 "across" (B.val (.list (opqs hs)))):=n12.set
 have hh8:=LA.kw hh7 kw8
 generalize setL L12 "across" (B.val (.list (opqs hs)))=L13 at fs8 w13 o13 i13 g13 y13 n13
 obtain⟨afc,oc,pmc,codec,docc,hmc,hoc,hdc,hcc⟩:=bs.fn "_c3_merge" merge1 (by rw[hf];rfl)
 have c3:C3At C (ev fns1 glob1 60) "_c3_merge" merge1 (c3First merge1.body) (c3Mid merge1.body) afc oc pmc codec docc:=⟨c3f1,hoc,hdc,hcc,hmc,by decide,c3start1 fns1 glob1 58⟩
 have hYe:∀a∈hs,a∉Y7:=fun a ha hm=>by
  obtain⟨oo,e⟩:=fs7.pre.hYs a (zmr _ hm)
  rw[hn8 a ha] at e;cases e
 have hal:(acrossP rows lines).length≤25:=by
  unfold acrossP
  rw[List.length_map]
  exact znT (List.length_filter_le _ _) hrl
 have hae:∀x∈acrossP rows lines,x.length=2:=fun x hx=>by
  obtain⟨q,_,rfl⟩:=zmap.mp hx
  rfl
 refine wpAny_execs_cons ?_
 show wpAny C.M _ (exec (.Assign [.Name "merged" _] (.Call (.Name "_c3_merge" _) [.BinOp (.ListComp (.Call (.Name "list" _) [cElt (compOf (ls1 23))] [] _) (cGen (compOf (ls1 23))::[]) (cSc (compOf (ls1 23))) _) .Add (.Name "across" _) _] [] _) _) env) _ _ _
 refine merge1_stmt (xs1:=lines) (xs2:=acrossP rows lines) (i1:=lines.map strsD) (d1:=laysD lines) (out:=out) (em1:=fun l'=>((ev fns1 glob1 60).E true (ownSc sc1 (cSc (compOf (ls1 23)))) l' (cElt (compOf (ls1 23)))).bind strL) S S.E aok c3 (hroom _ kO) fs8 (fun ce hce=> ?_) (by rw[hsc];exact E_name (n:=59) kR kR (purL_val i13)) rfl (by rw[hsc];kernel_rfl) (by rw[hsc];exact k23 L13 i13) kO y13 ⟨by decide,by decide⟩ ll8 hYe nd8 kO fs7.hP fs7.cY fs7.wY (.inl b4) (fun hs' hnd hlen=> ?_) (hloc _ (by rw[hsc];decide+kernel)) (by show env.scope.names.lookup _=_;rw[hsc];decide+kernel) fun s9 kw9 fs9=> ?_
 ·have hce':ce.scope=ownSc sc1 (cSc (compOf (ls1 23))):=by rw[hce,hsc]
  rw[←hce']
  exact fresh_list S.E (hkl2 ce hce) kR
 ·have hm:=merge_run (fns:=fns1) (glob:=glob1) (n:=50) (p:=fun k=>posM1.getD k ⟨0,0,0,0⟩) msc1 (by decide+kernel) mm hs' (curOf hs' (lines++acrossP rows lines)) [] out (by rw[curOf_map hs' _ hnd hlen];exact b2) hnd (fun a ha=>curOf_out ha) (by rw[hlen,List.length_append];omega) (fun a ha=> ?_) (by simp;omega)
  ·rw[mid1]
   exact hm
  ·have hmem:curOf hs' (lines++acrossP rows lines) a∈lines++acrossP rows lines:=by
    have e:=curOf_map hs' (lines++acrossP rows lines) hnd hlen
    have h2:curOf hs' (lines++acrossP rows lines) a∈hs'.map (curOf hs' (lines++acrossP rows lines)):=List.mem_map_of_mem ha
    rw[e] at h2
    exact h2
   rcases zapp.mp hmem with h|h
   ·have:=c7 _ h;omega
   ·have:=hae _ h;omega
 have la9:LA C 60 (callerA.deeper env) env s₁ (setL L13 "merged" (.val (strsD out))) s9:=⟨⟨Y7,fs9⟩,LA.kw hh8 kw9⟩
 have w14:setL L13 "merged" (B.val (strsD out)) "names"=some (.val (strsD nm5)):=(sN).trans w13
 have o14:setL L13 "merged" (B.val (strsD out)) "rows"=some (.val (rowsD rows)):=(sN).trans o13
 have g14:setL L13 "merged" (B.val (strsD out)) "longest"=some (.val (.int (gg.2:Int))):=(sN).trans g13
 have m14:setL L13 "merged" (B.val (strsD out)) "merged"=some (.val (strsD out)):=setL_eq
 generalize setL L13 "merged" (B.val (strsD out))=L14 at la9 w14 o14 g14 m14
 have a24:=st24 (n:=30) w14 m14 kO b5
 have a25:=st25 (n:=30) o14 m14 kO kO
 have a26:=st26 (n:=30) (l:=setL L14 "layers" (.val (laysD (layersP out rows)))) (lg:=gg.2) ((sN).trans o14) ((sN).trans m14) setL_eq ((sN).trans g14) kO kO b7 b6 b8
 have a27:=st27 (n:=30) (l:=setL L14 "layers" (.val (laysD (layersP out rows)))) ((sN).trans o14) setL_eq kO b7 b9
 refine seg_end (d:= .bool true) S la9 (by
  rw[hsc]
  exact(Ssl_next a24).trans ((Ssl_next a25).trans ((Ssl_next a26).trans (Ssl_ret a27)))) fun v s' Y hsh rd gr=> ?_
 have hv:=rd.bool_inv
 subst hv
 exact⟨rfl,⟨gr.keep,gr.tab,fun e=>by cases e⟩,hsh⟩
end
theorem or_nat{x y:Int}(hx:0≤x)(hy:0≤y):Builtin.bitOr x y=((x.toNat|||y.toNat:Nat):Int):=by
 have h1:decide (0≤Builtin.bitNot x)=false:=by unfold Builtin.bitNot;rw[decide_eq_false_iff_not];omega
 have h2:decide (0≤Builtin.bitNot y)=false:=by unfold Builtin.bitNot;rw[decide_eq_false_iff_not];omega
 unfold Builtin.bitOr Builtin.bitAnd
 rw[h1,h2]
 show Builtin.bitNot (Builtin.bitNot ((Builtin.bitNot (Builtin.bitNot x)).toNat|||(Builtin.bitNot (Builtin.bitNot y)).toNat:Nat))=_
 have e:∀z:Int,Builtin.bitNot (Builtin.bitNot z)=z:=fun z=>by unfold Builtin.bitNot;omega
 rw[e,e,e]
def subP(xs:List Int)(a b:Nat):Prop:=(drP xs a).toNat|||(drP xs b).toNat=(drP xs b).toNat
theorem sub_iff{xs:List Int}{a b:Nat}:Builtin.bitOr (drP xs a) (drP xs b)=drP xs b↔subP xs a b:=by
 have ha:=drP_lt xs a
 have hb:=drP_lt xs b
 rw[or_nat ha.1 hb.1]
 unfold subP
 omega
theorem dr_eq{xs:List Int}{a b:Nat}:drP xs a=drP xs b↔(drP xs a).toNat=(drP xs b).toNat:=by
 have ha:=drP_lt xs a
 have hb:=drP_lt xs b
 omega
def rP(xs:List Int)(a b:Nat):Prop:=a≠b∧subP xs a b∧(a<b∨(drP xs a).toNat≠(drP xs b).toNat)
theorem pairsP_mem{xs:List Int}{q:Nat×Nat}:q∈pairsP xs↔q.1<5∧q.2<5∧rP xs q.1 q.2:=by
 unfold pairsP bothP rP
 rw[List.mem_filter,Bool.or_eq_true,decide_eq_true_eq,Bool.not_eq_true',decide_eq_false_iff_not,dr_eq]
 constructor
 ·rintro ⟨h,h2⟩
  obtain⟨a,ha,h⟩:=List.mem_flatMap.mp h
  obtain⟨b,hb,rfl⟩:=zmap.mp h
  obtain⟨h1,h3⟩:=zfil.mp hb
  unfold leP at h3
  rw[Bool.and_eq_true,Bool.not_eq_true',decide_eq_false_iff_not,decide_eq_true_eq,sub_iff] at h3
  exact⟨zran.mp ha,zran.mp h1,h3.1,h3.2,h2⟩
 ·rintro ⟨h1,h2,h3,h4,h5⟩
  refine⟨List.mem_flatMap.mpr ⟨q.1,zran.mpr h1,zmap.mpr ⟨q.2,zfil.mpr ⟨zran.mpr h2,?_⟩,rfl⟩⟩,h5⟩
  unfold leP
  rw[Bool.and_eq_true,Bool.not_eq_true',decide_eq_false_iff_not,decide_eq_true_eq,sub_iff]
  exact⟨h3,h4⟩
theorem pairsP_nodup(xs:List Int):(pairsP xs).Nodup:=by
 unfold pairsP bothP
 refine List.Pairwise.filter _ ?_
 refine List.pairwise_flatMap.mpr ⟨fun a _=> ?_,?_⟩
 ·refine List.pairwise_map.mpr ((List.nodup_range.filter _).imp fun {x y} h e=>h ?_)
  exact congrArg Prod.snd e
 ·refine List.nodup_range.imp fun {x y} h q hq r hr e=>h ?_
  obtain⟨b,_,rfl⟩:=zmap.mp hq
  obtain⟨c,_,rfl⟩:=zmap.mp hr
  exact congrArg Prod.fst e
theorem rP_irr{xs:List Int}{a:Nat}:¬rP xs a a:=fun h=>h.1 rfl
theorem or_eq{A B C:Nat}(h:A|||B=B)(g:B|||C=C):A|||C=C∧(A=C→A=B∧B=C):=by
 refine⟨by rw[←g,←Nat.or_assoc,h],fun e=> ?_⟩
 subst e
 have:A=B:=by rw[←g,Nat.or_comm,h]
 exact⟨this,this.symm⟩
theorem rP_tr{xs:List Int}{a b c:Nat}(h:rP xs a b)(g:rP xs b c):rP xs a c:=by
 obtain⟨h1,h2,h3⟩:=h
 obtain⟨g1,g2,g3⟩:=g
 obtain⟨e1,e2⟩:=or_eq h2 g2
 refine⟨fun e=> ?_,e1,?_⟩
 ·subst e
  obtain⟨e3,e4⟩:=e2 rfl
  rcases h3 with h3|h3
  ·rcases g3 with g3|g3
   ·omega
   ·exact g3 e4
  ·exact h3 e3
 ·by_cases e:(drP xs a).toNat=(drP xs c).toNat
  ·obtain⟨e3,e4⟩:=e2 e
   left
   rcases h3 with h3|h3
   ·rcases g3 with g3|g3
    ·omega
    ·exact absurd e4 g3
   ·exact absurd e3 h3
  ·exact .inr e
theorem nm_inj:∀a,a<5→∀b,b<5→nmP a=nmP b→a=b:=by decide+kernel
theorem nm_mem:∀a,a<5→nmP a∈nm5:=by decide+kernel
theorem nm_of{x:Str}(h:x∈nm5):∃a,a<5∧nmP a=x:=by
 revert x
 show∀x∈nm5,_
 have:∀x∈nm5,∃a∈List.range 5,nmP a=x:=by decide+kernel
 intro x hx
 obtain⟨a,h1,h2⟩:=this x hx
 exact⟨a,zran.mp h1,h2⟩
def RX(xs:List Int)(x y:Str):Prop:=(x,y)∈rowsP xs
theorem RX_iff{xs:List Int}{a b:Nat}(ha:a<5)(hb:b<5):RX xs (nmP a) (nmP b)↔rP xs a b:=by
 unfold RX rowsP
 rw[List.mem_map]
 constructor
 ·rintro ⟨q,hq,e⟩
  obtain⟨h1,h2,h3⟩:=pairsP_mem.mp hq
  have e1:=nm_inj _ h1 _ ha (congrArg Prod.fst e)
  have e2:=nm_inj _ h2 _ hb (congrArg Prod.snd e)
  rw[e1,e2] at h3
  exact h3
 ·intro h
  exact⟨(a,b),pairsP_mem.mpr ⟨ha,hb,h⟩,rfl⟩
theorem RX_mem{xs:List Int}{x y:Str}(h:RX xs x y):∃a b,a<5∧b<5∧x=nmP a∧y=nmP b∧rP xs a b:=by
 obtain⟨q,hq,e⟩:=zmap.mp (show (x,y)∈(pairsP xs).map _ from h)
 obtain⟨h1,h2,h3⟩:=pairsP_mem.mp hq
 exact⟨q.1,q.2,h1,h2,(congrArg Prod.fst e).symm,(congrArg Prod.snd e).symm,h3⟩
theorem RX_nm{xs:List Int}{x y:Str}(h:RX xs x y):x∈nm5∧y∈nm5:=by
 obtain⟨a,b,h1,h2,rfl,rfl,_⟩:=RX_mem h
 exact⟨nm_mem a h1,nm_mem b h2⟩
theorem RX_ord(xs:List Int):Ord (RX xs) where
 irr:=fun x h=>by
  obtain⟨a,b,h1,h2,e1,e2,h3⟩:=RX_mem h
  rw[e1] at e2
  have:=nm_inj _ h1 _ h2 e2
  subst this
  exact rP_irr h3
 tr:=fun x y z h g=>by
  obtain⟨a,b,h1,h2,rfl,rfl,h3⟩:=RX_mem h
  obtain⟨c,d,g1,g2,e,rfl,g3⟩:=RX_mem g
  have:=nm_inj _ h2 _ g1 e
  subst this
  exact(RX_iff h1 g2).mpr (rP_tr h3 g3)
theorem ways_len(xs:List Int):(waysP (rowsP xs)).length≤10000:=by
 have h:∀(rest:List Str),(∀x∈rest,x∈nm5)→∀made:List (List (Str×Str)),(rest.foldl (fun made name=>joinedP made name (rowsP xs)) made).length≤6 ^ rest.length * made.length:=by
  intro rest
  induction rest with
  |nil=>intro _ made;simp
  |cons x rest ih=>
   intro hm made
   rw[List.foldl_cons]
   refine znT (ih (fun y hy=>hm y (zmC _ hy)) _) ?_
   have:=joinedP_len (states:=made) (rows_count xs x (hm x zmS))
   rw[List.length_cons,Nat.pow_succ,Nat.mul_assoc]
   exact Nat.mul_le_mul_left _ this
 have:=h nm5 (fun x hx=>hx) [[]]
 have e:6 ^ nm5.length * ([[]]:List (List (Str×Str))).length=7776:=by decide
 rw[e] at this
 exact znT this kO
section
variable(xs:List Int)
theorem rows_ways:Ways (rowsP xs) nm5 (waysP (rowsP xs)):=ways_ok fun q hq=>(RX_nm (xs:=xs) (x:=q.1) (y:=q.2) hq).1
theorem ways_ne:waysP (rowsP xs)≠[]:=by
 obtain⟨w,hw,_⟩:=(rows_ways xs).all [] ⟨by simp,by simp,fun q hq=>by cases hq⟩
 exact List.ne_nil_of_mem hw
theorem best_match:Match (rowsP xs) nm5 (bestP (waysP (rowsP xs))):=(rows_ways xs).ok _ (best_spec _ (ways_ne xs)).1
theorem match_way{w:List (Str×Str)}(h:Match (rowsP xs) nm5 w):Way (RX xs) nm5 w where
 f:=h.f
 s:=h.s
 r:=fun q hq=>(h.r q hq).1
 n:=fun q hq=>RX_nm (xs:=xs) (h.r q hq).1
theorem best_max{M:List (Str×Str)}(h:Match (rowsP xs) nm5 M):M.length≤(bestP (waysP (rowsP xs))).length:=by
 obtain⟨w,hw,hk⟩:=(rows_ways xs).all M h
 have:=(keyP_iff.mp hk).length_eq
 rw[List.length_map,List.length_map] at this
 have h2:=(best_spec _ (ways_ne xs)).2 w hw
 omega
theorem nm5_nodup:nm5.Nodup:=by decide
theorem best_rows:(linesP nm5 (bestP (waysP (rowsP xs)))).length+(bestP (waysP (rowsP xs))).length=5∧(catP (linesP nm5 (bestP (waysP (rowsP xs))))).Perm nm5∧(∀l∈linesP nm5 (bestP (waysP (rowsP xs))),l.Pairwise (RX xs)∧l≠[]):=way_rows (RX_ord xs) (match_way xs (best_match xs)) nm5_nodup kD
theorem match_len{w:List (Str×Str)}(h:Match (rowsP xs) nm5 w):w.length≤5:=by
 have:=(way_rows (RX_ord xs) (match_way xs h) nm5_nodup kD).1
 have e:nm5.length=5:=rfl
 omega
end
theorem up_nodup{xs:List Int}{c:List Str}(h:c.Pairwise (RX xs)):c.Nodup:=h.imp fun {a b} (h:RX xs a b) (e:a=b)=>(RX_ord xs).irr a (by rw[←e] at h;exact h)
def heldI(P:List (Nat×Nat))(I:List Nat):Nat:=(P.filter fun q=>decide (q.1∈I)&&decide (q.2∈I)).length
theorem great_spec(P:List (Nat×Nat)):∀(cs:List Nat) (q:Nat×Nat),
  (q.1≤(cs.foldl (greatStep P) q).1∧(∀c∈cs,heldI P (insideP c)=0→(insideP c).length≤(cs.foldl (greatStep P) q).1)∧((cs.foldl (greatStep P) q).1=q.1∨∃c∈cs,heldI P (insideP c)=0∧(cs.foldl (greatStep P) q).1=(insideP c).length))∧
  (q.2≤(cs.foldl (greatStep P) q).2∧(∀c∈cs,2 * heldI P (insideP c)=(insideP c).length * ((insideP c).length - 1)→(insideP c).length≤(cs.foldl (greatStep P) q).2)∧((cs.foldl (greatStep P) q).2=q.2∨∃c∈cs,2 * heldI P (insideP c)=(insideP c).length * ((insideP c).length - 1)∧(cs.foldl (greatStep P) q).2=(insideP c).length))
 |[],q=>⟨⟨Nat.le_refl _,by simp,.inl rfl⟩,⟨Nat.le_refl _,by simp,.inl rfl⟩⟩
 |c::cs,q=>by
  rw[List.foldl_cons]
  obtain⟨⟨a1,a2,a3⟩,⟨b1,b2,b3⟩⟩:=great_spec P cs (greatStep P q c)
  have e1:(greatStep P q c).1=if heldI P (insideP c)=0 then max q.1 (insideP c).length else q.1:=rfl
  have e2:(greatStep P q c).2=if 2 * heldI P (insideP c)=(insideP c).length * ((insideP c).length - 1) then max q.2 (insideP c).length else q.2:=rfl
  rw[e1] at a1 a3
  rw[e2] at b1 b3
  constructor
  ·refine⟨?_,fun d hd h=> ?_,?_⟩
   ·refine znT ?_ a1
    split
    ·exact Nat.le_max_left _ _
    ·exact Nat.le_refl _
   ·rcases zcon.mp hd with rfl|hd
    ·rw[if_pos h] at a1;exact znT (Nat.le_max_right _ _) a1
    ·exact a2 d hd h
   ·rcases a3 with a3|⟨d,hd,h,h2⟩
    ·split at a3
     ·rename_i h
      by_cases e:q.1≤(insideP c).length
      ·exact .inr ⟨c,zmS,h,a3.trans (Nat.max_eq_right e)⟩
      ·exact .inl (a3.trans (Nat.max_eq_left (Nat.le_of_lt (Nat.lt_of_not_le e))))
     ·exact .inl a3
    ·exact .inr ⟨d,zmC _ hd,h,h2⟩
  ·refine⟨?_,fun d hd h=> ?_,?_⟩
   ·refine znT ?_ b1
    split
    ·exact Nat.le_max_left _ _
    ·exact Nat.le_refl _
   ·rcases zcon.mp hd with rfl|hd
    ·rw[if_pos h] at b1;exact znT (Nat.le_max_right _ _) b1
    ·exact b2 d hd h
   ·rcases b3 with b3|⟨d,hd,h,h2⟩
    ·split at b3
     ·rename_i h
      by_cases e:q.2≤(insideP c).length
      ·exact .inr ⟨c,zmS,h,b3.trans (Nat.max_eq_right e)⟩
      ·exact .inl (b3.trans (Nat.max_eq_left (Nat.le_of_lt (Nat.lt_of_not_le e))))
     ·exact .inl b3
    ·exact .inr ⟨d,zmC _ hd,h,h2⟩
theorem cadd{α:Type}{f g h:α→Bool}:∀{P:List α},(∀q∈P,(f q).toNat=(g q).toNat+(h q).toNat)→(P.filter f).length=(P.filter g).length+(P.filter h).length
 |[],_=>rfl
 |q::P,hh=>by
  have ih:=cadd (P:=P) (f:=f) (g:=g) (h:=h) fun q hq=>hh q (zmC _ hq)
  have hq:=hh q zmS
  rw[List.filter_cons,List.filter_cons,List.filter_cons]
  cases hf:f q <;> cases hg:g q <;> cases hk:h q <;> rw[hf,hg,hk] at hq <;> simp only[Bool.toNat_true,Bool.toNat_false] at hq <;> simp only[if_true,Bool.false_eq_true,if_false,List.length_cons] <;> omega
theorem cone{P:List (Nat×Nat)}(hn:P.Nodup)(a:Nat×Nat):(P.filter fun q=>decide (q=a)).length=if a∈P then 1 else 0:=by
 induction P with
 |nil=>simp
 |cons q P ih=>
  obtain⟨h1,h2⟩:=znco.mp hn
  have ih:=ih h2
  rw[List.filter_cons]
  by_cases e:q=a
  ·subst e
   rw[if_neg h1] at ih
   simp[ih]
  ·rw[decide_eq_false e]
   have e':¬a=q:=fun h=>e h.symm
   simp only[Bool.false_eq_true,if_false,List.mem_cons,e',false_or]
   exact ih
def oneI(P:List (Nat×Nat))(x:Nat)(I:List Nat):Nat:=(P.filter fun q=>(decide (q.1=x)&&decide (q.2∈I))||(decide (q.2=x)&&decide (q.1∈I))).length
section
variable{P:List (Nat×Nat)}(hn:P.Nodup)(hi:∀a,(a,a)∉P)(ha:∀a b,(a,b)∈P→(b,a)∉P)
include hi in
theorem held_cons{x:Nat}{I:List Nat}(hx:x∉I):heldI P (x::I)=oneI P x I+heldI P I:=by
 unfold heldI oneI
 refine cadd fun q hq=> ?_
 obtain⟨a,b⟩:=q
 by_cases h1:a=x
 ·subst h1
  by_cases h2:b=a
  ·subst h2;exact absurd hq (hi b)
  ·by_cases h3:b∈I <;> simp[h2,h3,hx]
 ·by_cases h2:b=x
  ·subst h2
   by_cases h3:a∈I <;> simp[h1,h3,hx]
  ·by_cases h3:b∈I <;> by_cases h4:a∈I <;> simp[h1,h2,h3,h4]
include hn ha in
theorem one_all{x:Nat}:∀{I:List Nat},I.Nodup→x∉I→oneI P x I≤I.length∧(oneI P x I=I.length↔∀b∈I,(x,b)∈P∨(b,x)∈P)
 |[],_,_=>by
  have:oneI P x []=0:=by
   unfold oneI
   rw[List.length_eq_zero_iff,List.filter_eq_nil_iff]
   simp
  rw[this];simp
 |b::I,hI,hx=>by
  obtain⟨h1,h2⟩:=znco.mp hI
  have hxb:x≠b:=fun e=>hx (by rw[e];exact zmS)
  have hxI:x∉I:=fun h=>hx (zmC _ h)
  obtain⟨i1,i2⟩:=one_all h2 hxI
  have e:oneI P x (b::I)=(P.filter fun q=>decide (q=(x,b))||decide (q=(b,x))).length+oneI P x I:=by
   unfold oneI
   refine cadd fun q hq=> ?_
   obtain⟨c,d⟩:=q
   simp only[Prod.mk.injEq,List.mem_cons]
   by_cases g1:c=x
   ·subst g1
    by_cases g2:d=b
    ·subst g2;simp[h1,hxb];intro h;exact absurd h.symm hxb
    ·by_cases g3:d=c
     ·subst g3;simp[hxb,hxI]
     ·by_cases g4:d∈I <;> simp[g2,g3,g4,hxb]
   ·by_cases g2:d=x
    ·subst g2
     by_cases g3:c=b
     ·subst g3;simp[h1];intro h;exact absurd h.symm hxb
     ·by_cases g4:c∈I <;> simp[g1,g3,g4]
    ·simp[g1,g2]
  have e2:(P.filter fun q=>decide (q=(x,b))||decide (q=(b,x))).length=(if (x,b)∈P then 1 else 0)+(if (b,x)∈P then 1 else 0):=by
   rw[←cone hn,←cone hn]
   refine cadd fun q hq=> ?_
   by_cases g1:q=(x,b)
   ·subst g1
    simp[Prod.mk.injEq,hxb]
   ·simp[g1]
  rw[e,e2,List.length_cons]
  by_cases g1:(x,b)∈P
  ·have g2:=ha _ _ g1
   rw[if_pos g1,if_neg g2]
   refine⟨by omega,?_⟩
   constructor
   ·intro h c hc
    rcases zcon.mp hc with rfl|hc
    ·exact .inl g1
    ·exact i2.mp kO c hc
   ·intro h
    have:=i2.mpr fun c hc=>h c (zmC _ hc)
    omega
  ·rw[if_neg g1]
   by_cases g2:(b,x)∈P
   ·rw[if_pos g2]
    refine⟨by omega,?_⟩
    constructor
    ·intro h c hc
     rcases zcon.mp hc with rfl|hc
     ·exact .inr g2
     ·exact i2.mp kO c hc
    ·intro h
     have:=i2.mpr fun c hc=>h c (zmC _ hc)
     omega
   ·rw[if_neg g2]
    refine⟨by omega,?_⟩
    constructor
    ·intro h;omega
    ·intro h
     rcases h b zmS with h|h
     ·exact absurd h g1
     ·exact absurd h g2
theorem tri(k:Nat):(k+1) * (k+1 - 1)=k * (k - 1)+2 * k:=by
 cases k with
 |zero=>rfl
 |succ k=>
  show (k+2) * (k+1)=(k+1) * k+2 * (k+1)
  rw[Nat.add_mul (k) 2 (k+1),Nat.mul_comm k (k+1)]
include hn hi ha in
theorem held_two:∀{I:List Nat},I.Nodup→2 * heldI P I≤I.length * (I.length - 1)∧(2 * heldI P I=I.length * (I.length - 1)↔I.Pairwise fun a b=>(a,b)∈P∨(b,a)∈P)
 |[],_=>by
  have:heldI P []=0:=by
   unfold heldI
   rw[List.length_eq_zero_iff,List.filter_eq_nil_iff]
   simp
  rw[this];simp
 |x::I,hI=>by
  obtain⟨h1,h2⟩:=znco.mp hI
  obtain⟨i1,i2⟩:=held_two h2
  obtain⟨j1,j2⟩:=one_all hn ha h2 h1
  rw[held_cons hi h1,List.length_cons,tri,List.pairwise_cons,←i2,←j2]
  generalize I.length * (I.length - 1)=T at *
  omega
end
theorem held_zero{P:List (Nat×Nat)}{I:List Nat}:heldI P I=0↔∀q∈P,¬(q.1∈I∧q.2∈I):=by
 unfold heldI
 rw[List.length_eq_zero_iff,List.filter_eq_nil_iff]
 simp
theorem sel5:∀b0 b1 b2 b3 b4:Bool,∃c∈List.range 32,insideP c=(if b0 then [0] else [])++((if b1 then [1] else [])++((if b2 then [2] else [])++((if b3 then [3] else [])++(if b4 then [4] else [])))):=by decide+kernel
theorem sel(p:Nat→Bool):∃c∈List.range 32,insideP c=(List.range 5).filter p:=by
 obtain⟨c,hc,e⟩:=sel5 (p 0) (p 1) (p 2) (p 3) (p 4)
 refine⟨c,hc,e.trans ?_⟩
 have e5:List.range 5=[0,1,2,3,4]:=rfl
 rw[e5]
 simp only[List.filter_cons,List.filter_nil]
 cases p 0 <;> cases p 1 <;> cases p 2 <;> cases p 3 <;> cases p 4 <;> rfl
theorem inside_nodup(c:Nat):(insideP c).Nodup:=List.nodup_range.filter _
theorem inside_lt{c k:Nat}(h:k∈insideP c):k<5:=zran.mp (zfil.mp h).1
def rel10(b0 b1 b2 b3 b4 b5 b6 b7 b8 b9:Bool)(i j:Nat):Bool:=
 match i * 5+j with
 |1=>b0|2=>b1|3=>b2|4=>b3|7=>b4|8=>b5|9=>b6|13=>b7|14=>b8|19=>b9|_=>false
theorem rel10_eq(g:Nat→Nat→Bool){i j:Nat}(h1:i<j)(h2:j<5):rel10 (g 0 1) (g 0 2) (g 0 3) (g 0 4) (g 1 2) (g 1 3) (g 1 4) (g 2 3) (g 2 4) (g 3 4) i j=g i j:=by
 have:(i=0∧j=1)∨(i=0∧j=2)∨(i=0∧j=3)∨(i=0∧j=4)∨(i=1∧j=2)∨(i=1∧j=3)∨(i=1∧j=4)∨(i=2∧j=3)∨(i=2∧j=4)∨(i=3∧j=4):=by omega
 rcases this with ⟨rfl,rfl⟩|⟨rfl,rfl⟩|⟨rfl,rfl⟩|⟨rfl,rfl⟩|⟨rfl,rfl⟩|⟨rfl,rfl⟩|⟨rfl,rfl⟩|⟨rfl,rfl⟩|⟨rfl,rfl⟩|⟨rfl,rfl⟩ <;> rfl
def allM:List (List (Nat×Nat)):=(List.range 5).foldl (fun ms i=>ms.flatMap fun m=>m::(((List.range 5).filter fun j=>Nat.blt i j&& !(m.any fun q=>Nat.beq q.2 j)).map fun j=>m++[(i,j)])) [[]]
def allS:List (List Nat):=(List.range 5).foldl (fun ms i=>ms.flatMap fun m=>[m,m++[i]]) [[]]
def freeB(g:Nat→Nat→Bool):List Nat→Bool
 |[]=>true
 |i::S=>(S.all fun j=> !g i j)&&freeB g S
def dilB(g:Nat→Nat→Bool):Bool:=allM.any fun M=>(M.all fun q=>g q.1 q.2)&&allS.any fun S=>Nat.beq (M.length+S.length) 5&&freeB g S
def trB(g:Nat→Nat→Bool):Bool:=[(0,1,2),(0,1,3),(0,1,4),(0,2,3),(0,2,4),(0,3,4),(1,2,3),(1,2,4),(1,3,4),(2,3,4)].all fun(q:Nat×Nat×Nat)=> !(g q.1 q.2.1&&g q.2.1 q.2.2)||g q.1 q.2.2
theorem dil10:∀b0 b1 b2 b3 b4 b5 b6 b7 b8 b9:Bool,(!trB (rel10 b0 b1 b2 b3 b4 b5 b6 b7 b8 b9)||dilB (rel10 b0 b1 b2 b3 b4 b5 b6 b7 b8 b9))=true:=by decide+kernel
theorem allM_ok:∀M∈allM,(M.map (·.1)).Nodup∧(M.map (·.2)).Nodup∧∀q∈M,q.1<q.2∧q.2<5:=by decide+kernel
theorem allS_ok:∀S∈allS,S.Pairwise (fun a b=>a<b)∧∀i∈S,i<5:=by decide+kernel
theorem free_pw{g:Nat→Nat→Bool}:∀{S:List Nat},freeB g S=true→S.Pairwise fun i j=>g i j=false
 |[],_=>List.Pairwise.nil
 |i::S,h=>by
  unfold freeB at h
  rw[Bool.and_eq_true,List.all_eq_true] at h
  exact List.pairwise_cons.mpr ⟨fun j hj=>by simpa using h.1 j hj,free_pw h.2⟩
section
variable{R:Str→Str→Prop}{out:List Str}
open Classical
theorem dilworth(O:Ord R)(hl:out.length=5)(hn:out.Nodup)(hp:out.Pairwise fun a b=>¬R b a):
  ∃(M:List (Str×Str)) (S:List Str),(M.map (·.1)).Nodup∧(M.map (·.2)).Nodup∧(∀q∈M,R q.1 q.2)∧S.Nodup∧(∀x∈S,x∈out)∧(∀x∈S,∀y∈S,¬R x y)∧M.length+S.length=5:=by
 have ho:∀i,i<5→out[i]? =some (out.getD i ""):=fun i hi=>by
  rw[List.getD_eq_getElem?_getD,List.getElem?_eq_getElem kO];rfl
 have hne:∀i j,i<j→j<5→out.getD i ""≠out.getD j ""∧¬R (out.getD j "") (out.getD i ""):=fun i j h1 h2=>by
  have a:=List.pairwise_iff_getElem.mp hn i j kO kO h1
  have b:=List.pairwise_iff_getElem.mp hp i j kO kO h1
  simp only[List.getD_eq_getElem?_getD,List.getElem?_eq_getElem (show i<out.length by omega),List.getElem?_eq_getElem (show j<out.length by omega),Option.getD_some]
  exact⟨a,b⟩
 have hmem:∀i,i<5→out.getD i ""∈out:=fun i hi=>List.mem_of_getElem? (ho i hi)
 have hinj:∀i j,i<5→j<5→out.getD i ""=out.getD j ""→i=j:=fun i j h1 h2 e=>by
  rcases Nat.lt_trichotomy i j with h|h|h
  ·exact absurd e (hne i j h h2).1
  ·exact h
  ·exact absurd e.symm (hne j i h h1).1
 let g:Nat→Nat→Bool:=fun i j=>decide (R (out.getD i "") (out.getD j ""))
 have hg:∀i j,g i j=true↔R (out.getD i "") (out.getD j ""):=fun i j=>decide_eq_true_iff
 have hd:=dil10 (g 0 1) (g 0 2) (g 0 3) (g 0 4) (g 1 2) (g 1 3) (g 1 4) (g 2 3) (g 2 4) (g 3 4)
 generalize hr:rel10 (g 0 1) (g 0 2) (g 0 3) (g 0 4) (g 1 2) (g 1 3) (g 1 4) (g 2 3) (g 2 4) (g 3 4)=r at hd
 have hrg:∀i j,i<j→j<5→r i j=g i j:=fun i j h1 h2=>by rw[←hr];exact rel10_eq g h1 h2
 have ht:trB r=true:=by
  unfold trB
  rw[List.all_eq_true]
  intro q hq
  have hq3:q.1<q.2.1∧q.2.1<q.2.2∧q.2.2<5:=by
   have:∀q∈[(0,1,2),(0,1,3),(0,1,4),(0,2,3),(0,2,4),(0,3,4),(1,2,3),(1,2,4),(1,3,4),(2,3,4)],q.1<q.2.1∧q.2.1<q.2.2∧q.2.2<5:=by decide
   exact this q hq
  obtain⟨h1,h2,h3⟩:=hq3
  rw[hrg _ _ h1 kO,hrg _ _ h2 h3,hrg _ _ kO h3,Bool.or_eq_true,Bool.not_eq_true']
  by_cases e:(g q.1 q.2.1&&g q.2.1 q.2.2)=true
  ·right
   rw[Bool.and_eq_true,hg,hg] at e
   exact(hg _ _).mpr (O.tr _ _ _ e.1 e.2)
  ·left;simpa using e
 rw[ht] at hd
 have hd:dilB r=true:=by simpa using hd
 unfold dilB at hd
 rw[List.any_eq_true] at hd
 obtain⟨M,hM,hd⟩:=hd
 rw[Bool.and_eq_true,List.all_eq_true,List.any_eq_true] at hd
 obtain⟨hMr,S,hS,hd⟩:=hd
 rw[Bool.and_eq_true] at hd
 obtain⟨hlen,hfree⟩:=hd
 have hlen:M.length+S.length=5:=Nat.eq_of_beq_eq_true hlen
 obtain⟨m1,m2,m3⟩:=allM_ok M hM
 obtain⟨s1,s2⟩:=allS_ok S hS
 have hf:=free_pw hfree
 refine⟨M.map fun q=>(out.getD q.1 "",out.getD q.2 ""),S.map fun i=>out.getD i "",?_,?_,fun q hq=> ?_,?_,fun x hx=> ?_,fun x hx y hy=> ?_,by rw[List.length_map,List.length_map];exact hlen⟩
 ·rw[List.map_map]
  refine List.pairwise_map.mpr ((List.pairwise_map.mp m1).imp_of_mem fun {a b} ha hb h e=>h ?_)
  have h1:=m3 a ha;have h2:=m3 b hb
  exact hinj _ _ kO kO e
 ·rw[List.map_map]
  refine List.pairwise_map.mpr ((List.pairwise_map.mp m2).imp_of_mem fun {a b} ha hb h e=>h ?_)
  have h1:=m3 a ha;have h2:=m3 b hb
  exact hinj _ _ kO kO e
 ·obtain⟨p,hp',rfl⟩:=zmap.mp hq
  have h:=m3 p hp'
  have:=hMr p hp'
  rw[hrg _ _ h.1 h.2] at this
  exact(hg _ _).mp this
 ·refine List.pairwise_map.mpr (s1.imp_of_mem fun {a b} ha hb h e=> ?_)
  have:=hinj _ _ (s2 a ha) (s2 b hb) e
  omega
 ·obtain⟨i,hi,rfl⟩:=zmap.mp hx
  exact hmem i (s2 i hi)
 ·obtain⟨i,hi,rfl⟩:=zmap.mp hx
  obtain⟨j,hj,rfl⟩:=zmap.mp hy
  rcases Nat.lt_trichotomy i j with h|h|h
  ·have hij:r i j=false:=by
    have hboth:=List.Pairwise.and s1 hf
    obtain⟨a,ha,e⟩:=List.getElem_of_mem hi
    obtain⟨b,hb,e2⟩:=List.getElem_of_mem hj
    rcases Nat.lt_trichotomy a b with h'|h'|h'
    ·have:=List.pairwise_iff_getElem.mp hf a b ha hb h'
     rw[e,e2] at this
     exact this
    ·subst h'
     rw[e] at e2;omega
    ·have:=List.pairwise_iff_getElem.mp s1 b a hb ha h'
     rw[e,e2] at this
     omega
   rw[hrg _ _ h (s2 j hj)] at hij
   intro hR
   rw[(hg _ _).mpr hR] at hij
   cases hij
  ·subst h;exact O.irr _
  ·exact(hne j i h (s2 i hi)).2
theorem cover{p:Str→Bool}:∀{ls:List (List Str)},(∀l∈ls,(l.filter p).length≤1)→(ls.flatten.filter p).length≤ls.length
 |[],_=>by simp
 |l::ls,h=>by
  have h1:=h l zmS
  have h2:=cover (ls:=ls) fun l hl=>h l (zmC _ hl)
  rw[List.flatten_cons,List.filter_append,List.length_append,List.length_cons]
  omega
theorem chain_free{l S:List Str}(hl:l.Pairwise R)(hS:∀x∈S,∀y∈S,¬R x y):(l.filter fun x=>decide (x∈S)).length≤1:=by
 have h:=hl.filter (fun x=>decide (x∈S))
 have hm:∀z∈l.filter (fun x=>decide (x∈S)),z∈S:=fun z hz=>by simpa using (zfil.mp hz).2
 match h':l.filter (fun x=>decide (x∈S)),h,hm with
 |[],_,_=>simp
 |[a],_,_=>simp
 |a::b::r,h,hm=>exact absurd (List.rel_of_pairwise_cons h zmS) (hS a (hm a zmS) b (hm b (zmC _ zmS)))
theorem chain_cmp{c:List Str}(h:c.Pairwise R){x y:Str}(hx:x∈c)(hy:y∈c)(hne:x≠y):R x y∨R y x:=by
 obtain⟨a,ha,e⟩:=List.getElem_of_mem hx
 obtain⟨b,hb,e2⟩:=List.getElem_of_mem hy
 rcases Nat.lt_trichotomy a b with h'|h'|h'
 ·have:=List.pairwise_iff_getElem.mp h a b ha hb h'
  rw[e,e2] at this
  exact .inl this
 ·subst h'
  rw[e] at e2;exact absurd e2 hne
 ·have:=List.pairwise_iff_getElem.mp h b a hb ha h'
  rw[e,e2] at this
  exact .inr this
end
theorem nmI_nodup{I:List Nat}(h:I.Nodup)(h5:∀k∈I,k<5):(I.map nmP).Nodup:=
 List.pairwise_map.mpr (h.imp_of_mem fun {a b} ha hb hne e=>hne (nm_inj _ (h5 a ha) _ (h5 b hb) e))
theorem sel_len{S:List Str}(hn:S.Nodup)(hm:∀x∈S,x∈nm5):((List.range 5).filter fun k=>decide (nmP k∈S)).length=S.length:=by
 have h:(((List.range 5).filter fun k=>decide (nmP k∈S)).map nmP).Perm S:=by
  refine nodup_perm (nmI_nodup (List.nodup_range.filter _) fun k hk=>zran.mp (zfil.mp hk).1) hn fun z=> ?_
  rw[List.mem_map]
  constructor
  ·rintro ⟨k,hk,rfl⟩
   simpa using (zfil.mp hk).2
  ·intro hz
   obtain⟨a,ha,rfl⟩:=nm_of (hm z hz)
   exact⟨a,zfil.mpr ⟨zran.mpr ha,by simpa using hz⟩,rfl⟩
 have:=h.length_eq
 rw[List.length_map] at this
 exact this
section
variable{xs:List Int}{out:List Str}(hpm:out.Perm nm5)(hp:out.Pairwise fun a b=>¬RX xs b a)
include hpm hp
theorem wide_eq:(linesP nm5 (bestP (waysP (rowsP xs)))).length=(greatP (pairsP xs)).1:=by
 obtain⟨⟨_,g1,g2⟩,_⟩:=great_spec (pairsP xs) (List.range 32) (0,0)
 have e:(List.range 32).foldl (greatStep (pairsP xs)) (0,0)=greatP (pairsP xs):=rfl
 rw[e] at g1 g2
 obtain⟨b1,b2,b3⟩:=best_rows xs
 refine Nat.le_antisymm ?_ ?_
 ·obtain⟨M,S,m1,m2,m3,s1,s2,s3,hlen⟩:=dilworth (RX_ord xs) (by rw[hpm.length_eq];rfl) (hpm.nodup_iff.mpr nm5_nodup) hp
  have hS:∀x∈S,x∈nm5:=fun x hx=>hpm.mem_iff.mp (s2 x hx)
  have h1:=best_max xs (M:=M) ⟨m1,m2,fun q hq=>⟨m3 q hq,(RX_nm (m3 q hq)).1⟩⟩
  obtain⟨c,hc,e⟩:=sel fun k=>decide (nmP k∈S)
  have h2:=g1 c hc (held_zero.mpr fun q hq ⟨i1,i2⟩=>by
   obtain⟨q1,q2,q3⟩:=pairsP_mem.mp hq
   rw[e] at i1 i2
   refine s3 _ (by simpa using (zfil.mp i1).2) _ (by simpa using (zfil.mp i2).2) ((RX_iff q1 q2).mpr q3))
  rw[e,sel_len s1 hS] at h2
  omega
 ·rcases g2 with g2|⟨c,hc,h,g2⟩
  ·rw[g2];exact Nat.zero_le _
  ·rw[g2]
   have hz:=held_zero.mp h
   have hS:∀x∈(insideP c).map nmP,∀y∈(insideP c).map nmP,¬RX xs x y:=fun x hx y hy hR=>by
    obtain⟨a,ha,rfl⟩:=zmap.mp hx
    obtain⟨b,hb,rfl⟩:=zmap.mp hy
    have h1:=inside_lt ha;have h2:=inside_lt hb
    exact hz (a,b) (pairsP_mem.mpr ⟨h1,h2,(RX_iff h1 h2).mp hR⟩) ⟨ha,hb⟩
   have h1:=cover (ls:=linesP nm5 (bestP (waysP (rowsP xs)))) (p:=fun x=>decide (x∈(insideP c).map nmP)) fun l hl=>chain_free (b3 l hl).1 hS
   rw[←catP_flat] at h1
   have h2:=nodup_len (nmI_nodup (inside_nodup c) fun k hk=>inside_lt hk) (b:=(catP (linesP nm5 (bestP (waysP (rowsP xs))))).filter fun x=>decide (x∈(insideP c).map nmP)) fun z hz=>by
    refine zfil.mpr ⟨?_,decide_eq_true hz⟩
    obtain⟨a,ha,rfl⟩:=zmap.mp hz
    exact b2.mem_iff.mpr (nm_mem a (inside_lt ha))
   rw[List.length_map] at h2
   omega
theorem long_eq{n:Nat}(hlo:∃c:List Str,c.length=n∧c.Pairwise (RX xs)∧∀z∈c,z∈out)(hhi:∀c:List Str,c.Pairwise (RX xs)→(∀z∈c,z∈out)→c.length≤n):n=(greatP (pairsP xs)).2:=by
 obtain⟨_,⟨_,g1,g2⟩⟩:=great_spec (pairsP xs) (List.range 32) (0,0)
 have e:(List.range 32).foldl (greatStep (pairsP xs)) (0,0)=greatP (pairsP xs):=rfl
 rw[e] at g1 g2
 have hirr:∀a,(a,a)∉pairsP xs:=fun a h=>rP_irr (pairsP_mem.mp h).2.2
 have hasy:∀a b,(a,b)∈pairsP xs→(b,a)∉pairsP xs:=fun a b h g=>rP_irr (rP_tr (pairsP_mem.mp h).2.2 (pairsP_mem.mp g).2.2)
 have h2:=fun c=>(held_two (pairsP_nodup xs) hirr hasy (inside_nodup c)).2
 refine Nat.le_antisymm ?_ ?_
 ·obtain⟨c,c1,c2,c3⟩:=hlo
  have hS:∀x∈c,x∈nm5:=fun x hx=>hpm.mem_iff.mp (c3 x hx)
  obtain⟨i,hi,e⟩:=sel fun k=>decide (nmP k∈c)
  have:=g1 i hi ((h2 i).mpr ((inside_nodup i).imp_of_mem fun {a b} ha hb hne=>by
   have ha5:=inside_lt ha;have hb5:=inside_lt hb
   rw[e] at ha hb
   have ha':nmP a∈c:=by simpa using (zfil.mp ha).2
   have hb':nmP b∈c:=by simpa using (zfil.mp hb).2
   rcases chain_cmp c2 ha' hb' (fun h=>hne (nm_inj _ ha5 _ hb5 h)) with h|h
   ·exact .inl (pairsP_mem.mpr ⟨ha5,hb5,(RX_iff ha5 hb5).mp h⟩)
   ·exact .inr (pairsP_mem.mpr ⟨hb5,ha5,(RX_iff hb5 ha5).mp h⟩)))
  rw[e,sel_len (up_nodup c2) hS] at this
  omega
 ·rcases g2 with g2|⟨c,hc,h,g2⟩
  ·rw[g2];exact Nat.zero_le _
  ·rw[g2]
   have hpw:=(h2 c).mp h
   have hcmp:∀a∈insideP c,∀b∈insideP c,a≠b→RX xs (nmP a) (nmP b)∨RX xs (nmP b) (nmP a):=by
    intro a ha b hb hne
    have ha5:=inside_lt ha;have hb5:=inside_lt hb
    have key:(a,b)∈pairsP xs∨(b,a)∈pairsP xs:=by
     obtain⟨i,hi,e⟩:=List.getElem_of_mem ha
     obtain⟨j,hj,e2⟩:=List.getElem_of_mem hb
     rcases Nat.lt_trichotomy i j with h'|h'|h'
     ·have:=List.pairwise_iff_getElem.mp hpw i j hi hj h'
      rw[e,e2] at this
      exact this
     ·subst h'
      rw[e] at e2;exact absurd e2 hne
     ·have:=List.pairwise_iff_getElem.mp hpw j i hj hi h'
      rw[e,e2] at this
      exact this.symm
    rcases key with k|k
    ·exact .inl ((RX_iff ha5 hb5).mpr (pairsP_mem.mp k).2.2)
    ·exact .inr ((RX_iff hb5 ha5).mpr (pairsP_mem.mp k).2.2)
   have hon:out.Nodup:=hpm.nodup_iff.mpr nm5_nodup
   have h1:=hhi (out.filter fun x=>decide (x∈(insideP c).map nmP)) (((List.Pairwise.and hp hon).filter _).imp_of_mem fun {x y} hx hy hxy=>by
    have hx':x∈(insideP c).map nmP:=by simpa using (zfil.mp hx).2
    have hy':y∈(insideP c).map nmP:=by simpa using (zfil.mp hy).2
    obtain⟨a,ha,rfl⟩:=zmap.mp hx'
    obtain⟨b,hb,rfl⟩:=zmap.mp hy'
    rcases hcmp a ha b hb (fun e=>hxy.2 (by rw[e])) with k|k
    ·exact k
    ·exact absurd k hxy.1) fun z hz=>(zfil.mp hz).1
   have h3:=nodup_len (nmI_nodup (inside_nodup c) fun k hk=>inside_lt hk) (b:=out.filter fun x=>decide (x∈(insideP c).map nmP)) fun z hz=>by
    refine zfil.mpr ⟨?_,decide_eq_true hz⟩
    obtain⟨a,ha,rfl⟩:=zmap.mp hz
    exact hpm.mem_iff.mpr (nm_mem a (inside_lt ha))
   rw[List.length_map] at h3
   omega
end
theorem sub2{x y:Str}:∀{out:List Str},[x,y].Sublist out→∃i j:Nat,i<j∧out[i]? =some x∧out[j]? =some y
 |[],h=>by cases h
 |z::out,h=>by
  cases h with
  |cons _ h=>
   obtain⟨i,j,h1,h2,h3⟩:=sub2 h
   exact⟨i+1,j+1,by omega,by simpa using h2,by simpa using h3⟩
  |cons_cons _ h=>
   obtain⟨j,hj⟩:=List.mem_iff_getElem?.mp (List.singleton_sublist.mp h)
   exact⟨0,j+1,by omega,by simp,by simpa using hj⟩
theorem idx_inj{out:List Str}(hn:out.Nodup){i j:Nat}{x:Str}(h:out[i]? =some x)(g:out[j]? =some x):i=j:=by
 obtain⟨hi,e⟩:=List.getElem?_eq_some_iff.mp h
 obtain⟨hj,e2⟩:=List.getElem?_eq_some_iff.mp g
 rcases Nat.lt_trichotomy i j with k|k|k
 ·exact absurd (e.trans e2.symm) (List.pairwise_iff_getElem.mp hn i j hi hj k)
 ·exact k
 ·exact absurd (e2.trans e.symm) (List.pairwise_iff_getElem.mp hn j i hj hi k)
theorem idx_find{out:List Str}(hn:out.Nodup){i:Nat}{x:Str}(h:out[i]? =some x):out.findIdx? (fun y=>y==x)=some i:=by
 obtain⟨hi,e⟩:=List.getElem?_eq_some_iff.mp h
 refine List.findIdx?_eq_some_iff_getElem.mpr ⟨hi,by simpa using e,fun j hj hh=> ?_⟩
 have e2:out[j]=x:=by simpa using hh
 have:=idx_inj hn h (List.getElem?_eq_some_iff.mpr ⟨by omega,e2⟩)
 omega
theorem sub_chain{R:Str→Str→Prop}(O:Ord R){x y:Str}(hr:R x y):∀{l:List Str},l.Pairwise R→x∈l→y∈l→[x,y].Sublist l
 |[],_,h,_=>by cases h
 |z::l,hp,hx,hy=>by
  obtain⟨p1,p2⟩:=List.pairwise_cons.mp hp
  have hne:x≠y:=fun e=>O.irr x (by rw[←e] at hr;exact hr)
  rcases zcon.mp hx with e|hx'
  ·rcases zcon.mp hy with e2|hy'
   ·exact absurd (e.trans e2.symm) hne
   ·rw[e];exact List.Sublist.cons_cons _ (List.singleton_sublist.mpr hy')
  ·rcases zcon.mp hy with e|hy'
   ·rw[e] at hr
    exact absurd (O.tr _ _ _ hr (p1 x hx')) (O.irr x)
   ·exact List.Sublist.cons _ (sub_chain O hr p2 hx' hy')
theorem total_app(a b:List (List Str)):total (a++b)=total a+total b:=by
 unfold total
 rw[List.map_append,List.sum_append]
theorem total_flat(a:List (List Str)):total a=a.flatten.length:=by
 unfold total
 rw[List.length_flatten]
theorem total_two{α:Type}(f:α→List Str)(hf:∀q,(f q).length=2):∀l:List α,total (l.map f)=2 * l.length
 |[]=>rfl
 |q::l=>by
  have ih:=total_two f hf l
  unfold total at *
  rw[List.map_cons,List.map_cons,List.sum_cons,ih,hf,List.length_cons]
  omega
theorem plain1(xs:List Int):Plain1 xs:=by
 obtain⟨b1,b2,b3⟩:=best_rows xs
 have hb:=best_match xs
 have h5:nm5.length=5:=rfl
 have hcl:=b2.length_eq
 have hin:∀l∈linesP nm5 (bestP (waysP (rowsP xs))),∀z∈l,z∈nm5:=fun l hl z hz=>b2.mem_iff.mp (by rw[catP_flat];exact List.mem_flatten.mpr ⟨l,hl,hz⟩)
 have hac:∀s∈acrossP (rowsP xs) (linesP nm5 (bestP (waysP (rowsP xs)))),∃q∈rowsP xs,s=[q.1,q.2]:=fun s hs=>by
  obtain⟨q,hq,rfl⟩:=zmap.mp hs
  exact⟨q,(zfil.mp hq).1,rfl⟩
 have htot:total (linesP nm5 (bestP (waysP (rowsP xs)))++acrossP (rowsP xs) (linesP nm5 (bestP (waysP (rowsP xs)))))<900:=by
  rw[total_app,total_flat,←catP_flat,hcl,h5]
  unfold acrossP
  rw[total_two _ (fun q=>rfl)]
  have h1:=List.length_filter_le (fun q:Str×Str=>decide (((linesP nm5 (bestP (waysP (rowsP xs)))).filter fun line=>decide (q.1∈line)&&decide (q.2∈line))=[])) (rowsP xs)
  have h2:=pairsP_len xs
  have h3:(rowsP xs).length=(pairsP xs).length:=List.length_map _
  omega
 obtain⟨out,o1,o2,o3,o4⟩:=merge_spec (RX_ord xs) 900 _ htot fun s hs=>by
  rcases zapp.mp hs with hs|hs
  ·exact(b3 s hs).1
  ·obtain⟨q,hq,rfl⟩:=hac s hs
   exact List.pairwise_cons.mpr ⟨fun z hz=>by rw[List.mem_singleton.mp hz];exact hq,List.pairwise_singleton _ _⟩
 have hpm:out.Perm nm5:=nodup_perm o2 nm5_nodup fun z=>by
  rw[o3]
  constructor
  ·rintro ⟨s,hs,hz⟩
   rcases zapp.mp hs with hs|hs
   ·exact hin s hs z hz
   ·obtain⟨q,hq,rfl⟩:=hac s hs
    have:=RX_nm (xs:=xs) (x:=q.1) (y:=q.2) hq
    rcases zcon.mp hz with e|hz
    ·rw[e];exact this.1
    ·rw[List.mem_singleton.mp hz];exact this.2
  ·intro hz
   have:=b2.mem_iff.mpr hz
   rw[catP_flat] at this
   obtain⟨l,hl,hz⟩:=List.mem_flatten.mp this
   exact⟨l,zmL _ hl,hz⟩
 have hsub:∀q∈rowsP xs,[q.1,q.2].Sublist out:=fun q hq=>by
  by_cases e:((linesP nm5 (bestP (waysP (rowsP xs)))).filter fun line=>decide (q.1∈line)&&decide (q.2∈line))=[]
  ·exact o4 _ (zmr _ (zmap.mpr ⟨q,zfil.mpr ⟨hq,decide_eq_true e⟩,rfl⟩))
  ·obtain⟨l,hl⟩:=List.exists_mem_of_ne_nil _ e
   obtain⟨hl,hd⟩:=zfil.mp hl
   rw[Bool.and_eq_true,decide_eq_true_eq,decide_eq_true_eq] at hd
   exact(sub_chain (RX_ord xs) (x:=q.1) (y:=q.2) hq (b3 l hl).1 hd.1 hd.2).trans (o4 l (zmL _ hl))
 have hp:out.Pairwise fun a b=>¬RX xs b a:=by
  refine List.pairwise_iff_getElem.mpr fun i j hi hj hij hr=> ?_
  obtain⟨i',j',k1,k2,k3⟩:=sub2 (hsub (out[j],out[i]) hr)
  have e1:=idx_inj o2 k2 (List.getElem?_eq_getElem hj)
  have e2:=idx_inj o2 k3 (List.getElem?_eq_getElem hi)
  omega
 obtain⟨y1,y2,y3⟩:=mirsky (R:=RX xs) (rows:=rowsP xs) (fun x y=>Iff.rfl) (RX_ord xs) o2 (fun x y h=>⟨hpm.mem_iff.mpr (RX_nm h).1,hpm.mem_iff.mpr (RX_nm h).2⟩) hp (layersP out (rowsP xs)) rfl
 have hol:out.length=5:=hpm.length_eq
 exact {
  ne:=ways_ne xs
  len:=ways_len xs
  w5:=fun w hw=>match_len xs ((rows_ways xs).ok w hw)
  nd:=hb.f
  lne:=fun e=>by rw[e] at b2;exact absurd b2.length_eq kD
  llen:=by omega
  lin:=fun l hl=>by
   have:=nodup_len (up_nodup (b3 l hl).1) (hin l hl)
   omega
  cl:=by omega
  cs:=sortS_iff.mpr b2
  wide:=wide_eq hpm hp
  mg:=by
   refine⟨900,out,Nat.le_refl _,o1,by omega,(fun e=>by rw[e] at hol;cases hol),sortS_iff.mpr hpm,fun q hq=> ?_,?_,long_eq hpm hp y1 y2,y3⟩
   ·obtain⟨i,j,k1,k2,k3⟩:=sub2 (hsub q hq)
    exact⟨i,j,idx_find o2 k2,idx_find o2 k3,by omega⟩
   ·obtain⟨c,c1,c2,c3⟩:=y1
    have:=nodup_len (up_nodup c2) c3
    omega }
theorem lqLaw:("law":Str)++(".<locals>.":Str)++("<lambda>":Str)=("law.<locals>.<lambda>":Str):=by decide+kernel
theorem law1_ok:okFn law1=true:=by decide+kernel
theorem law1_names:law1.names=(["script"]:List Str):=kR
def adK(K:Frag)(x:Str):Addr:=match nsIn K mainGlobals x with
 |some (some (.ref a))=>a
 |_=>0
def cdK(K:Frag)(x:Str):Addr:=match (fdK (obK K (adK K x))).code with
 | .ref c=>c
 |_=>0
theorem fnCons{K:Frag}{q:Str×Fn}{l:List (Str×Fn)}(h:FnAt K q.1 q.2 (adK K q.1) (cdK K q.1))(t:∀p∈l,∃a c,FnAt K p.1 p.2 a c):∀p∈q::l,∃a c,FnAt K p.1 p.2 a c:=
 List.forall_mem_cons.mpr ⟨⟨_,_,h⟩,t⟩end Mine
open PySem PySem.W PyProof.Rows
set_option Elab.async false
set_option maxRecDepth 100000 in
set_option maxHeartbeats 8000000 in
theorem PySem.Challenge.cw_oy0159_01_holds : PySem.Challenge.rw_oy0159_01.Holds := by
  w_on; o_law; k_head
  case hw => w_witness2
  k_fill
  intro w s₀ s₁ mg mb G Y fa o pm cd doc dV kV ho hd hcd hD hmg hg args vals as hpre hlay hrd hwl hlo
  have KX := km_in_of Y
  km_tabs Y
  have X := (Ground.X G).1
  have V := (Ground.X G).2
  refine Ground.open G ?_
  intro T B D TE TW
  try (refine guard_noD D (by decide +kernel) ?_; clear D)
  km_lay T hmg ho hd cd
  have hdV : dV = .none := by
    rcases hD.pos with ⟨_, e⟩ | ⟨h, _⟩
    · exact e
    · exact absurd rfl h
  have hkV : kV = .none := by
    rcases hD.kw with ⟨_, e⟩ | ⟨h, _⟩
    · exact e
    · exact absurd rfl h
  subst hdV hkV
  clear hD Y V TE TW B
  wrow_args hpre hlay hrd hwl hlo
  rename_i ns hs hlay0 hL1 hr1 hl2 as1 as2 la vs as3 hL ra w1 r0 hI hrW hlen htr
  obtain ⟨vs, e1, e2⟩ := Mine.script_of (prog := Challenge.pw_oy0159_01) (w := w) w1
  refine enter_call ?_
  refine kn_post hT9 (fun _ _ => rfl) ?_
  have kf : ∀ q ∈ Mine.fns1, ∃ a c, Mine.FnAt (cw_oy0159_01_holds.heap_39 w.params) q.1 q.2 a c := by
    unfold Mine.fns1
    iterate 14 refine Mine.fnCons ⟨by kernel_rfl, by kernel_rfl, by kernel_rfl, by kernel_rfl, by kernel_rfl⟩ ?_
    exact fun _ h => nomatch h
  have x51 : Mine.ExcAt (cw_oy0159_01_holds.heap_39 w.params) "error_reply" 51 38 50 37 := ⟨by kernel_rfl, ⟨_, _, _, _, _, _, _, _, _, _, _, _, _, _, rfl⟩, by kernel_rfl, by kernel_rfl, by simp only [Mine.excMyNames, List.forall_mem_cons]; exact ⟨by kernel_rfl, by kernel_rfl, by kernel_rfl, by kernel_rfl, by kernel_rfl, fun _ h => nomatch h⟩, ⟨_, _, _, _, rfl, rfl⟩, by kernel_rfl, by kernel_rfl, by simp only [Mine.excMyNames, List.forall_mem_cons]; exact ⟨by kernel_rfl, by kernel_rfl, by kernel_rfl, by kernel_rfl, by kernel_rfl, fun _ h => nomatch h⟩⟩
  have x63 : Mine.ExcAt (cw_oy0159_01_holds.heap_39 w.params) "error_proto" 63 38 62 37 := ⟨by kernel_rfl, ⟨_, _, _, _, _, _, _, _, _, _, _, _, _, _, rfl⟩, by kernel_rfl, by kernel_rfl, by simp only [Mine.excMyNames, List.forall_mem_cons]; exact ⟨by kernel_rfl, by kernel_rfl, by kernel_rfl, by kernel_rfl, by kernel_rfl, fun _ h => nomatch h⟩, ⟨_, _, _, _, rfl, rfl⟩, by kernel_rfl, by kernel_rfl, by simp only [Mine.excMyNames, List.forall_mem_cons]; exact ⟨by kernel_rfl, by kernel_rfl, by kernel_rfl, by kernel_rfl, by kernel_rfl, fun _ h => nomatch h⟩⟩
  have EK : Mine.ExcKAt (cw_oy0159_01_holds.heap_39 w.params) 51 63 := by
    refine ⟨by kernel_rfl, by kernel_rfl, by decide, ?_, ?_, ?_⟩
    · intro c hc c' hc'
      simp only [List.mem_cons, List.not_mem_nil, or_false] at hc hc'
      rcases hc with rfl | rfl <;> rcases hc' with rfl | rfl <;> kernel_rfl
    · intro c hc
      simp only [List.mem_cons, List.not_mem_nil, or_false] at hc
      rcases hc with rfl | rfl <;> kernel_rfl
    · intro c hc
      simp only [List.mem_cons, List.not_mem_nil, or_false] at hc
      rcases hc with rfl | rfl <;> kernel_rfl
  have kb : ∀ x ∈ Mine.usedBuiltins, nsIn (cw_oy0159_01_holds.heap_39 w.params) mainGlobals x = some none := by
    simp only [Mine.usedBuiltins, List.forall_mem_cons]
    exact ⟨by kernel_rfl, by kernel_rfl, by kernel_rfl, by kernel_rfl, by kernel_rfl, by kernel_rfl, by kernel_rfl, by kernel_rfl, by kernel_rfl, by kernel_rfl, by kernel_rfl, by kernel_rfl, by kernel_rfl, fun _ h => nomatch h⟩
  have AK : Mine.AllK (cw_oy0159_01_holds.heap_39 w.params) Mine.fns1 Mine.tabD 183 181 := {
    noT := by kernel_rfl
    fn := kf
    okf := Mine.okf1
    tab := ⟨.ref 126, by kernel_rfl, by kernel_rfl⟩
    bi := kb
    red := ⟨Mine.red1, 23, 22, 16, 15, Mine.redf1, by kernel_rfl, by kernel_rfl, by kernel_rfl, by kernel_rfl, by kernel_rfl, by kernel_rfl, by kernel_rfl, by kernel_rfl, by kernel_rfl, by kernel_rfl⟩
    hd := by kernel_rfl
    exc := ⟨51, 63, 38, 50, 62, 37, x51, x63, by decide, by decide, by decide⟩ }
  have BS := Mine.base_of (prog := Challenge.pw_oy0159_01) (w := w) (lq := "law.<locals>.<lambda>") hT9 KX T (by kernel_rfl) AK
  have XK := EK.is (C := Mine.cxOf Challenge.pw_oy0159_01 w (ghostOf s₁.heap [(183, 181)]) 181 mg mb Mine.fns1 Mine.tabD 183 "law.<locals>.<lambda>") (ghost_K hT9 KX AK.noT) BS.g
  have hns : ns.length ≤ 1000 := by
    have h63 : ¬ ((63 : Int) < (ns.length : Int)) := hlen
    omega
  exact Mine.law_enter (fn := Mine.law1) (n := 60) BS rfl (hT9 _ (List.mem_singleton.mpr rfl)).2 hg Mine.law1_ok Mine.law1_names ho hd hcd Mine.lqLaw e1 e2 (by kernel_rfl) (fun _ => rfl) (by decide) (Mine.law1_body BS rfl rfl XK hns (Mine.plain1 _))
