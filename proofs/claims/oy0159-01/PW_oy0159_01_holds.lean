import PyProof.Rows.All
import Wide.All
import OpenK.AllK
import Wide.FinOn
import PySem.Challenge.RW_oy0159_01
set_option Elab.async false
set_option maxRecDepth 100000
set_option linter.unusedVariables false
set_option tactic.hygienic false
set_option maxHeartbeats 1000000
set_option compiler.extract_closed false
namespace Mine
open PySem PySem.Calls PyProof.Rows
theorem kO{p:Prop}(h:p:=by omega):p:=h
theorem kD{p:Prop}(h:p:=by decide):p:=h
theorem nL{n:Nat}:n<=n:=Nat.le_refl n
theorem kR{p:Prop}(h:p:=by kernel_rfl):p:=h
def j6:= @Option.some.inj
def jz:= @List.mem_append_right
def zbs:= @Option.bind_eq_some_iff
def jk:= @List.mem_cons_self
def qO:= @List.mem_cons_of_mem
def xn:= @List.mem_append_left
def wW:= @Heap.get?_push_of_some
def xJ:= @Nat.le_trans
def j4:= @List.mem_singleton
def j0:= @List.mem_cons
def jq:= @List.mem_append
def vK:= @List.mem_map
def qG:= @List.mem_filter
def y7:= @List.nodup_cons
def yQ:= @List.mem_range
open PySem.Const renaming casesOn->cC
open PySem.Expr renaming casesOn->cE
open PySem.Operator renaming casesOn->cP
open PySem.Stmt renaming casesOn->cS
open PySem.UnaryOp renaming casesOn->cU
open _root_.Option renaming casesOn->cO
open _root_.List renaming casesOn->cL
open _root_.Nat renaming casesOn->cN
open PySem.CmpOp renaming casesOn->cCO
open _root_.Bool renaming casesOn->cT
open PySem.BoolOp renaming casesOn->cBO
open PySem.Value renaming casesOn->cV
open PySem.Data renaming casesOn->cDa
open _root_.Int renaming casesOn->cI
theorem nn{α:Type}{x:α}{P:Prop}(h:(none:Option α)=some x):P:=nomatch h
theorem ff{P:Prop}(h:false=true):P:=nomatch h
theorem zn{α:Type}{x:α}{P:Prop}(h:(none:Option α)=some x):P:=nomatch h
theorem zf{P:Prop}(h:false=true):P:=nomatch h
theorem x9{α:Type}{a:α}{l:List α}:a∈a::l:= .head _
theorem kK{α:Type}{a x0:α}{l:List α}:a∈x0::a::l:= .tail _ (.head _)
theorem mF{α:Type}{a x0 x1:α}{l:List α}:a∈x0::x1::a::l:= .tail _ (.tail _ (.head _))
theorem nu{α:Type}{a x0 x1 x2:α}{l:List α}:a∈x0::x1::x2::a::l:= .tail _ (.tail _ (.tail _ (.head _)))
theorem zm4{α:Type}{a x0 x1 x2 x3:α}{l:List α}:a∈x0::x1::x2::x3::a::l:= .tail _ (.tail _ (.tail _ (.tail _ (.head _))))
theorem lD{α:Type}{a x0 x1 x2 x3 x4:α}{l:List α}:a∈x0::x1::x2::x3::x4::a::l:= .tail _ (.tail _ (.tail _ (.tail _ (.tail _ (.head _)))))
theorem zm6{α:Type}{a x0 x1 x2 x3 x4 x5:α}{l:List α}:a∈x0::x1::x2::x3::x4::x5::a::l:= .tail _ (.tail _ (.tail _ (.tail _ (.tail _ (.tail _ (.head _))))))
theorem zm7{α:Type}{a x0 x1 x2 x3 x4 x5 x6:α}{l:List α}:a∈x0::x1::x2::x3::x4::x5::x6::a::l:= .tail _ (.tail _ (.tail _ (.tail _ (.tail _ (.tail _ (.tail _ (.head _)))))))
theorem yU{c:Prop}[Decidable c]{α:Type}{x y:Option α}{d:α}{P:Prop}(a:c->x=some d->P)(b:¬c->y=some d->P)(h:(if c then x else y)=some d):P:=by
 by_cases e:c
 ·rw[if_pos e] at h;exact a e h
 ·rw[if_neg e] at h;exact b e h
theorem wL{c:Prop}[Decidable c]{α:Type}{x:Option α}{d:α}{P:Prop}(a:c->x=some d->P)(h:(if c then x else none)=some d):P:=yU a (fun _=>nn) h
theorem tN{c:Prop}[Decidable c]{α:Type}{x:Option α}{d:α}{P:Prop}(a:¬c->x=some d->P)(h:(if c then none else x)=some d):P:=yU (fun _=>nn) a h
theorem bE{α β:Type}{o:Option α}{f:α->Option β}{b:β}{q:Prop}(h:o.bind f=some b)(k:∀a,o=some a->f a=some b->q):q:=(zbs.mp h).elim fun a h=>k a h.1 h.2
theorem mE{α β:Type}{o:Option α}{f:α->β}{b:β}{q:Prop}(h:o.map f=some b)(k:∀a,o=some a->f a=b->q):q:=(Option.map_eq_some_iff.mp h).elim fun a h=>k a h.1 h.2
theorem lE{α β:Type}{l:List α}{f:α->β}{b:β}{q:Prop}(h:b∈l.map f)(k:∀a,a∈l->f a=b->q):q:=(vK.mp h).elim fun a h=>k a h.1 h.2
theorem e0_1{A1:Prop}{q:Prop}(h:A1)(k:A1->q):q:=k h
theorem e0_2{A1 A2:Prop}{q:Prop}(h:A1/\A2)(k:A1->A2->q):q:=k h.1 h.2
theorem yD{A1 A2 A3:Prop}{q:Prop}(h:A1/\A2/\A3)(k:A1->A2->A3->q):q:=k h.1 h.2.1 h.2.2
theorem ug{A1 A2 A3 A4:Prop}{q:Prop}(h:A1/\A2/\A3/\A4)(k:A1->A2->A3->A4->q):q:=k h.1 h.2.1 h.2.2.1 h.2.2.2
theorem fS{A1 A2 A3 A4 A5:Prop}{q:Prop}(h:A1/\A2/\A3/\A4/\A5)(k:A1->A2->A3->A4->A5->q):q:=k h.1 h.2.1 h.2.2.1 h.2.2.2.1 h.2.2.2.2
theorem pB{A1 A2 A3 A4 A5 A6:Prop}{q:Prop}(h:A1/\A2/\A3/\A4/\A5/\A6)(k:A1->A2->A3->A4->A5->A6->q):q:=k h.1 h.2.1 h.2.2.1 h.2.2.2.1 h.2.2.2.2.1 h.2.2.2.2.2
theorem e1_1{α1:Type}{A1:α1->Prop}{q:Prop}(h:∃x1,A1 x1)(k:∀x1,A1 x1->q):q:=h.elim fun x h=>e0_1 h (k x)
theorem jH{α1:Type}{A1 A2:α1->Prop}{q:Prop}(h:∃x1,A1 x1/\A2 x1)(k:∀x1,A1 x1->A2 x1->q):q:=h.elim fun x h=>e0_2 h (k x)
theorem xQ{α1:Type}{A1 A2 A3:α1->Prop}{q:Prop}(h:∃x1,A1 x1/\A2 x1/\A3 x1)(k:∀x1,A1 x1->A2 x1->A3 x1->q):q:=h.elim fun x h=>yD h (k x)
theorem e1_4{α1:Type}{A1 A2 A3 A4:α1->Prop}{q:Prop}(h:∃x1,A1 x1/\A2 x1/\A3 x1/\A4 x1)(k:∀x1,A1 x1->A2 x1->A3 x1->A4 x1->q):q:=h.elim fun x h=>ug h (k x)
theorem e1_6{α1:Type}{A1 A2 A3 A4 A5 A6:α1->Prop}{q:Prop}(h:∃x1,A1 x1/\A2 x1/\A3 x1/\A4 x1/\A5 x1/\A6 x1)(k:∀x1,A1 x1->A2 x1->A3 x1->A4 x1->A5 x1->A6 x1->q):q:=h.elim fun x h=>pB h (k x)
theorem pA{α1 α2:Type}{A1:α1->α2->Prop}{q:Prop}(h:∃x1 x2,A1 x1 x2)(k:∀x1 x2,A1 x1 x2->q):q:=h.elim fun x h=>e1_1 h (k x)
theorem qU{α1 α2:Type}{A1 A2:α1->α2->Prop}{q:Prop}(h:∃x1 x2,A1 x1 x2/\A2 x1 x2)(k:∀x1 x2,A1 x1 x2->A2 x1 x2->q):q:=h.elim fun x h=>jH h (k x)
theorem zB{α1 α2:Type}{A1 A2 A3:α1->α2->Prop}{q:Prop}(h:∃x1 x2,A1 x1 x2/\A2 x1 x2/\A3 x1 x2)(k:∀x1 x2,A1 x1 x2->A2 x1 x2->A3 x1 x2->q):q:=h.elim fun x h=>xQ h (k x)
theorem uf{α1 α2:Type}{A1 A2 A3 A4:α1->α2->Prop}{q:Prop}(h:∃x1 x2,A1 x1 x2/\A2 x1 x2/\A3 x1 x2/\A4 x1 x2)(k:∀x1 x2,A1 x1 x2->A2 x1 x2->A3 x1 x2->A4 x1 x2->q):q:=h.elim fun x h=>e1_4 h (k x)
theorem uB{α1 α2 α3:Type}{A1 A2:α1->α2->α3->Prop}{q:Prop}(h:∃x1 x2 x3,A1 x1 x2 x3/\A2 x1 x2 x3)(k:∀x1 x2 x3,A1 x1 x2 x3->A2 x1 x2 x3->q):q:=h.elim fun x h=>qU h (k x)
theorem jj{α1 α2 α3:Type}{A1 A2 A3:α1->α2->α3->Prop}{q:Prop}(h:∃x1 x2 x3,A1 x1 x2 x3/\A2 x1 x2 x3/\A3 x1 x2 x3)(k:∀x1 x2 x3,A1 x1 x2 x3->A2 x1 x2 x3->A3 x1 x2 x3->q):q:=h.elim fun x h=>zB h (k x)
theorem yz{α1 α2 α3:Type}{A1 A2 A3 A4:α1->α2->α3->Prop}{q:Prop}(h:∃x1 x2 x3,A1 x1 x2 x3/\A2 x1 x2 x3/\A3 x1 x2 x3/\A4 x1 x2 x3)(k:∀x1 x2 x3,A1 x1 x2 x3->A2 x1 x2 x3->A3 x1 x2 x3->A4 x1 x2 x3->q):q:=h.elim fun x h=>uf h (k x)
theorem ue{α1 α2 α3 α4:Type}{A1 A2:α1->α2->α3->α4->Prop}{q:Prop}(h:∃x1 x2 x3 x4,A1 x1 x2 x3 x4/\A2 x1 x2 x3 x4)(k:∀x1 x2 x3 x4,A1 x1 x2 x3 x4->A2 x1 x2 x3 x4->q):q:=h.elim fun x h=>uB h (k x)
theorem oN{α1 α2 α3 α4:Type}{A1 A2 A3:α1->α2->α3->α4->Prop}{q:Prop}(h:∃x1 x2 x3 x4,A1 x1 x2 x3 x4/\A2 x1 x2 x3 x4/\A3 x1 x2 x3 x4)(k:∀x1 x2 x3 x4,A1 x1 x2 x3 x4->A2 x1 x2 x3 x4->A3 x1 x2 x3 x4->q):q:=h.elim fun x h=>jj h (k x)
theorem ud{α1 α2 α3 α4:Type}{A1 A2 A3 A4:α1->α2->α3->α4->Prop}{q:Prop}(h:∃x1 x2 x3 x4,A1 x1 x2 x3 x4/\A2 x1 x2 x3 x4/\A3 x1 x2 x3 x4/\A4 x1 x2 x3 x4)(k:∀x1 x2 x3 x4,A1 x1 x2 x3 x4->A2 x1 x2 x3 x4->A3 x1 x2 x3 x4->A4 x1 x2 x3 x4->q):q:=h.elim fun x h=>yz h (k x)
theorem fR{α1 α2 α3 α4 α5:Type}{A1 A2 A3 A4:α1->α2->α3->α4->α5->Prop}{q:Prop}(h:∃x1 x2 x3 x4 x5,A1 x1 x2 x3 x4 x5/\A2 x1 x2 x3 x4 x5/\A3 x1 x2 x3 x4 x5/\A4 x1 x2 x3 x4 x5)(k:∀x1 x2 x3 x4 x5,A1 x1 x2 x3 x4 x5->A2 x1 x2 x3 x4 x5->A3 x1 x2 x3 x4 x5->A4 x1 x2 x3 x4 x5->q):q:=h.elim fun x h=>ud h (k x)
theorem zA{p:Prop}(h:p:=by with_reducible assumption):p:=h
theorem zD{p:Prop}(h:p:=by decide):p:=h
theorem lC{a b:Nat}(h:a<b):a<=b:=Nat.le_of_lt h
theorem zo8{a b:Nat}(h:a<b+1):a<=b:=Nat.le_of_lt_succ h
theorem cj{a b:Nat}(h:a<=b):a<=b+1:=Nat.le_succ_of_le h
theorem oC{a b c:Nat}(h:a<b)(k:b<c):a<c:=Nat.lt_trans h k
theorem bX{a b c:Nat}(h:a<=b)(k:b<=c):a<=c:=xJ h k
theorem j8{a b c:Nat}(h:a<=b:=by with_reducible assumption)(k:b<=c:=by decide):a<=c:=xJ h k
theorem zo15{a b c:Nat}(h:a<=b)(k:b<c):a<c:=Nat.lt_of_le_of_lt h k
theorem ta{a b c:Nat}(h:a<b)(k:b<=c):a<c:=Nat.lt_of_lt_of_le h k
theorem rh{a b c:Nat}(h:a<b)(k:b<=c):a<=c:=xJ (Nat.le_of_lt h) k
theorem zo19{a b:Nat}(h:a<b):a≠b:=Nat.ne_of_lt h
inductive D where
 |none
 |bool (b:Bool)
 |int (i:Int)
 |str (s:Str)
 |list (l:List D)
 |tup (l:List D)
 |dictS (l:List (Str×D))
 |rng (a b:Int)
 |opq (v:Value)
 |lref (a:Addr) (l:List D)
noncomputable abbrev q4:=Value->Shared->Prop
noncomputable abbrev vo:=Flow->Shared->Prop
noncomputable abbrev yV:=List (Str×Addr)
noncomputable abbrev xO:=List (Str×D)
noncomputable abbrev mL:=List (Str×Value)
noncomputable abbrev qF:=List (Str×Str)
noncomputable abbrev fC:=List (Str×NameKind)
noncomputable abbrev HV:=Addr->Option Obj
noncomputable def jc(vs:List Value)(n:Nat):Obj:={ cls:= .type "list",data:= .seq vs.toArray n }
noncomputable def xt(vs:List Value)(n:Nat):Obj:={ cls:= .type "tuple",data:= .seq vs.toArray n }
section
variable(prog:Program)(w:World)
mutual
inductive R (H:HV):Value->D->Prop
 |none:R H Value.none D.none
 |bool (b:Bool):R H (Value.bool b) (D.bool b)
 |int (i:Int) (t:Tok):R H (Value.int i t) (D.int i)
 |str (x:Str) (t:Tok):R H (Value.str x t) (D.str x)
 |list {a:Addr} {vs:List Value} {n:Nat} {ds:List D}:H a=some (jc vs n)->Rs H vs ds->R H (Value.ref a) (D.list ds)
 |tup {a:Addr} {vs:List Value} {n:Nat} {ds:List D}:H a=some (xt vs n)->Rs H vs ds->R H (Value.ref a) (D.tup ds)
 |dictS {a:Addr} {o:Obj} {ks:List Str} {vs:List Value} {ds:List D}:H a=some o->o.IsDictOf (strKind prog w) (ks.zip vs)->ks.length=vs.length->Rs H vs ds->a≠sysModules->R H (Value.ref a) (D.dictS (ks.zip ds))
 |rng {r:Addr} {a b:Int} {t u v:Tok}:H r=some { cls:= .type "range",data:= .fields #[.int a t,.int b u,.int 1 v] }->R H (Value.ref r) (D.rng a b)
 |opq (v:Value):R H v (D.opq v)
 |lref {a:Addr} {vs:List Value} {n:Nat} {ds:List D}:H a=some (jc vs n)->Rs H vs ds->R H (Value.ref a) (D.lref a ds)
inductive Rs (H:HV):List Value->List D->Prop
 |nil:Rs H [] []
 |cons {v:Value} {vs:List Value} {d:D} {ds:List D}:R H v d->Rs H vs ds->Rs H (v::vs) (d::ds)
end
end
section
variable{prog:Program}{w:World}{H H':HV}
theorem R.mono(hs:∀a o,H a=some o->H' a=some o){v:Value}{d:D}(h:R prog w H v d):R prog w H' v d:=
 R.rec (motive_1:=fun v d _=>R prog w H' v d) (motive_2:=fun vs ds _=>Rs prog w H' vs ds) .none .bool .int .str (fun h _ ih=> .list (hs _ _ h) ih) (fun h _ ih=> .tup (hs _ _ h) ih) (fun h i l _ ne ih=> .dictS (hs _ _ h) i l ih ne) (fun h=> .rng (hs _ _ h)) .opq (fun h _ ih=> .lref (hs _ _ h) ih) .nil (fun _ _ h r=> .cons h r) h
theorem Rs.ind{P:List Value->List D->Prop}(h0:P [] [])(h1:∀v d vs ds,R prog w H v d->Rs prog w H vs ds->P vs ds->P (v::vs) (d::ds)){vs:List Value}{ds:List D}(h:Rs prog w H vs ds):P vs ds:=
 Rs.rec (motive_1:=fun _ _ _=>True) (motive_2:=fun vs ds _=>P vs ds) trivial (fun _=>trivial) (fun _ _=>trivial) (fun _ _=>trivial) (fun _ _ _=>trivial) (fun _ _ _=>trivial) (fun _ _ _ _ _ _=>trivial) (fun _=>trivial) (fun _=>trivial) (fun _ _ _=>trivial) h0 (fun r rs _ ih=>h1 _ _ _ _ r rs ih) h
theorem Rs.mono(hs:∀a o,H a=some o->H' a=some o){vs:List Value}{ds:List D}(h:Rs prog w H vs ds):Rs prog w H' vs ds:=h.ind .nil fun _ _ _ _ r _ ih=> .cons (R.mono hs r) ih
noncomputable def RIs(H:HV)(v:Value):D->Prop
 | .none=>v= .none
 | .bool b=>v= .bool b
 | .int i=>∃t,v= .int i t
 | .str x=>∃t,v= .str x t
 | .list ds=>∃a vs n,v= .ref a/\H a=some (jc vs n)/\Rs prog w H vs ds
 | .tup ds=>∃a vs n,v= .ref a/\H a=some (xt vs n)/\Rs prog w H vs ds
 | .dictS l=>∃(a:Addr) (o:Obj) (ks:List Str) (vs:List Value) (ds:List D),v= .ref a/\l=ks.zip ds/\H a=some o/\o.IsDictOf (strKind prog w) (ks.zip vs)/\ks.length=vs.length/\Rs prog w H vs ds/\a≠sysModules
 | .rng a b=>∃r t u z,v= .ref r/\H r=some { cls:= .type "range",data:= .fields #[.int a t,.int b u,.int 1 z] }
 | .opq u=>v=u
 | .lref a ds=>∃vs n,v= .ref a/\H a=some (jc vs n)/\Rs prog w H vs ds
theorem R.inv{v:Value}{d:D}(h:R prog w H v d):RIs (prog:=prog) (w:=w) H v d:=
 R.casesOn (motive_1:=fun v d _=>RIs (prog:=prog) (w:=w) H v d) h rfl (fun _=>rfl) (fun _ t=>⟨t,rfl⟩) (fun _ t=>⟨t,rfl⟩) (fun h r=>⟨_,_,_,rfl,h,r⟩) (fun h r=>⟨_,_,_,rfl,h,r⟩) (fun h i l r ne=>⟨_,_,_,_,_,rfl,rfl,h,i,l,r,ne⟩) (fun h=>⟨_,_,_,_,rfl,h⟩) (fun _=>rfl) (fun h r=>⟨_,_,rfl,h,r⟩)
noncomputable def RsInv(H:HV)(vs:List Value):List D->Prop
 |[]=>vs=[]
 |d::ds=>∃x xs,vs=x::xs/\R prog w H x d/\Rs prog w H xs ds
theorem Rs.inv{vs:List Value}{ds:List D}(h:Rs prog w H vs ds):RsInv (prog:=prog) (w:=w) H vs ds:=h.ind rfl fun _ _ _ _ r rs _=>⟨_,_,rfl,r,rs⟩
variable{vs ws:List Value}{ds es:List D}{v:Value}{d:D}
theorem Rs.un{v:List Value}{d:D}{ds:List D}(h:Rs prog w H v (d::ds)):∃x xs,v=x::xs/\R prog w H x d/\Rs prog w H xs ds:=h.inv
theorem Rs.un0{v:List Value}(h:Rs prog w H v []):v=[]:=h.inv
theorem Rs.un2{v:List Value}{a b:D}(h:Rs prog w H v [a,b]):∃x y,v=[x,y]/\R prog w H x a/\R prog w H y b:=by
 refine zB h.un ?_;rintro x _ rfl r1 h
 refine zB h.un ?_;rintro y _ rfl r2 h
 exact⟨x,y,by rw[h.un0],r1,r2⟩
theorem Rs.un3{v:List Value}{a b c:D}(h:Rs prog w H v [a,b,c]):∃x y z,v=[x,y,z]/\R prog w H x a/\R prog w H y b/\R prog w H z c:=by
 refine zB h.un ?_;rintro x _ rfl r1 h
 refine zB h.un2 ?_;rintro y z rfl r2 r3
 exact⟨x,y,z,rfl,r1,r2,r3⟩
theorem Rs.length{vs:List Value}{ds:List D}(h:Rs prog w H vs ds):vs.length=ds.length:=h.ind (P:=fun vs ds=>vs.length=ds.length) rfl fun _ _ _ _ _ _ ih=>congrArg (·+1) ih
theorem Rs.append{vs:List Value}{ds:List D}(h:Rs prog w H vs ds)(k:Rs prog w H ws es):Rs prog w H (vs++ws) (ds++es):=h.ind (P:=fun vs ds=>Rs prog w H (vs++ws) (ds++es)) k fun _ _ _ _ r _ ih=> .cons r ih
theorem Rs.get{vs:List Value}{ds:List D}(h:Rs prog w H vs ds):∀{k:Nat} {d:D},ds[k]? =some d->∃v,vs[k]? =some v/\R prog w H v d:=
 h.ind (P:=fun vs ds=>∀{k:Nat} {d:D},ds[k]? =some d->∃v,vs[k]? =some v/\R prog w H v d) (fun e=>nn e) fun v d vs ds r _ ih=>fun {k} {d'}=>match k with
  |0=>fun e=>⟨v,rfl,(j6 e)▸r⟩
  |k+1=>fun e=>ih (k:=k) e
theorem Rs.getV{vs:List Value}{ds:List D}(h:Rs prog w H vs ds):∀{k:Nat} {v:Value},vs[k]? =some v->∃d,ds[k]? =some d/\R prog w H v d:=
 h.ind (P:=fun vs ds=>∀{k:Nat} {v:Value},vs[k]? =some v->∃d,ds[k]? =some d/\R prog w H v d) (fun e=>nn e) fun v d vs ds r _ ih=>fun {k} {d'}=>match k with
  |0=>fun e=>⟨d,rfl,(j6 e)▸r⟩
  |k+1=>fun e=>ih (k:=k) e
end
open Mine.D renaming casesOn->cD
noncomputable def D.flat:D->D
 | .lref _ l=> .list l
 |d=>d
theorem R.flat{prog:Program}{w:World}{H:HV}{v:Value}{d:D}(h:R prog w H v d):R prog w H v d.flat:=by
 induction d using cD with
 |lref a l=>
  refine zB (R.inv h) ?_;rintro vs n rfl h r
  exact .list h r
 |_=>exact h
noncomputable def view(h:Heap)(Y:List Addr):HV:=fun a=>if a∈Y then none else h.get? a
theorem jM{h:Heap}{Y:List Addr}{a:Addr}{o:Obj}(e:view h Y a=some o):h.get? a=some o/\a∉Y:=by
 unfold view at e;revert e;refine tN fun _ e=> ?_
 ·exact⟨e,‹_›⟩
theorem jX{h:Heap}{Y:List Addr}{a:Addr}{o:Obj}(e:h.get? a=some o)(n:a∉Y):view h Y a=some o:=by
 unfold view;rw[if_neg n];exact e
structure Fn where
 params:Arguments
 body:List Stmt
 scope:Scope
noncomputable def Fn.names(f:Fn):List Str:=f.params.args.map (·.arg)
noncomputable def zq(p:Arguments):Bool:=p.posonlyargs.isEmpty&&p.kwonlyargs.isEmpty&&p.vararg.isNone&&p.kwarg.isNone&&decide ((p.args.map (·.arg)).Nodup)
noncomputable def uc(f:Fn):Bool:=zq f.params&& !f.scope.isCoroutine&& !f.scope.isGenerator&&decide (f.scope.kind= .function)&&f.names.all (fun x=>decide (f.scope.names.lookup x=some .local\/f.scope.names.lookup x=some .cell))&&f.scope.names.all (fun p=>decide (p.2≠.free))
inductive Fl where
 |next|brk
 |ret (d:D)
 |exc (cls:Str) (d:D)
inductive B where
 |val (d:D)
 |own (l:List D)
open Mine.Fl renaming casesOn->cF
open Mine.B renaming casesOn->cB
noncomputable abbrev Loc:=Str->Option D
noncomputable abbrev jQ:=Str->Option B
noncomputable def jV(l:jQ):Loc:=fun x=>match l x with|some (.val d)=>some d|_=>none
noncomputable def qx(l:jQ):Loc:=fun x=>match l x with|some (.val d)=>some d|some (.own l)=>some (.list l)|none=>none
noncomputable def jA{α:Type}(l:Str->Option α)(x:Str)(a:α):Str->Option α:=fun y=>if y=x then some a else l y
noncomputable def gL:List Str:=["talk","made","seen","perm","result"]
noncomputable def jR(outer sc:Scope):Scope:={ sc with names:=sc.names.map fun(n,k)=>if (k== .free&&outer.kind== .function&&outer.names.lookup n==some .cell)=true then (n,.cell) else (n,k) }
noncomputable def jL(sc:Scope)(l:Loc):Loc:=fun x=>if sc.names.lookup x=some .free then l x else none
mutual
noncomputable def D.beq:D->D->Bool
 | .int a,.int b=>a==b
 | .str a,.str b=>a==b
 | .list a,.list b=>D.beqs a b
 | .tup a,.tup b=>D.beqs a b
 |_,_=>false
noncomputable def D.beqs:List D->List D->Bool
 |[],[]=>true
 |a::r,b::q=>D.beq a b&&D.beqs r q
 |_,_=>false
end
mutual
noncomputable def D.like:D->D->Bool
 | .int _,.int _=>true
 | .str _,.str _=>true
 | .list a,.list b=>D.likes a b
 | .tup a,.tup b=>D.likes a b
 |_,_=>false
noncomputable def D.likes:List D->List D->Bool
 |a::r,b::q=>D.like a b&&D.likes r q
 |_,_=>true
end
mutual
noncomputable def D.dep:D->Nat
 | .list a=>D.deps a+1
 | .tup a=>D.deps a+1
 |_=>0
noncomputable def D.deps:List D->Nat
 |[]=>0
 |a::r=>max (D.dep a) (D.deps r)
end
noncomputable def small(a:Int):Bool:=decide (a.natAbs<2 ^ 60)
noncomputable def lim:Nat:=1000000
noncomputable def zR{α β:Type}(as:List α)(k1:α->Option β)(k2:α->α->Option β):Option β:=match as with
 |[]=>none
 |a::r=>match r with
  |[]=>k1 a
  |b::r=>match r with
   |[]=>k2 a b
   |_::_=>none
noncomputable def lH{α β:Type}(as:List α)(k1:α->Option β):Option β:=match as with
 |[]=>none
 |a::r=>match r with
  |[]=>k1 a
  |_::_=>none
noncomputable def intOp(op:Operator)(a b:Int):Option Int:=match op with
 | .Add=>some (a+b)
 | .Sub=>some (a - b)
 | .Mult=>if small a||small b then some (a * b) else none
 | .FloorDiv=>if b≠0/\b.natAbs<1073741824 then some (a.fdiv b) else none
 | .Mod=>if b≠0 then some (a.fmod b) else none
 | .Pow=>if (a=2\/a=8)/\0<=b/\b<=64 then some (a ^ b.toNat) else none
 | .BitAnd=>some (Builtin.bitAnd a b)
 | .BitOr=>some (Builtin.bitOr a b)
 |_=>none
noncomputable def wy(op:Operator)(x y:D):Option D:=match x with
 | .int a=>(match y with
   | .int b=>(intOp op a b).map .int
   |_=>none)
 | .str a=>(match y with
   | .str b=>(match op with
     | .Add=>if a.length+b.length<=lim then some (.str (a++b)) else none
     |_=>none)
   | .int n=>(match op with
     | .Mult=>if a.length<=100/\0<=n/\n<=100 then some (.str (Txt.mul a n)) else none
     |_=>none)
   |_=>none)
 | .list a=>(match y with
   | .list b=>(match op with
     | .Add=>if a.length+b.length<=lim then some (.list (a++b)) else none
     |_=>none)
   |_=>none)
 |_=>none
noncomputable def D.asInt? :D->Option Int
 | .int i=>Option.some i
 |_=>Option.none
noncomputable def D.asStr? :D->Option Str
 | .str i=>Option.some i
 |_=>Option.none
noncomputable def D.asList? :D->Option (List D)
 | .list i=>Option.some i
 |_=>Option.none
noncomputable def ints? :List D->Option (List Int)
 |[]=>some []
 |d::r=>d.asInt?.bind fun i=>(ints? r).map (i::·)
noncomputable def strs? :List D->Option (List Str)
 |[]=>some []
 |d::r=>d.asStr?.bind fun i=>(strs? r).map (i::·)
noncomputable def strLe(a b:Str):Bool:=decide (a.cps.toList<=b.cps.toList)
noncomputable def xv(l:List Str):List Str:=l.mergeSort strLe
noncomputable def idx?(i:Int)(n:Nat):Option Nat:=if 0<=i then (if i<n then some i.toNat else none) else if -(n:Int)<=i then some (i+n).toNat else none
noncomputable def pick(ds:List D)(lo hi st:Option Int):List D:=(sliceRange (sliceBounds lo hi st ds.length).1 (sliceBounds lo hi st ds.length).2.1 (sliceBounds lo hi st ds.length).2.2).filterMap (ds[·]?)
noncomputable def rJ(l:List D)(i:Int):Option D:=if l.length<=lim then (idx? i l.length).bind (l[·]?) else none
noncomputable def itemD0(a b:D):Option D:=match a with
 | .list l=>b.asInt?.bind (rJ l)
 | .tup l=>b.asInt?.bind (rJ l)
 | .str x=>b.asInt?.bind fun i=>if x.length<=lim then (idx? i x.length).bind fun k=>(x.cps[k]?).map fun c=> .str ⟨#[c]⟩ else none
 | .dictS l=>b.asStr?.bind fun k=>l.lookup k
 |_=>none
noncomputable def wN(a b:D):Option D:=itemD0 a.flat b
noncomputable def inD(a b:D):Option Bool:=match b with
 | .list l=>if l.all (fun y=>D.like y a&&decide (D.dep y<=20)) then some (l.any (fun y=>D.beq y a)) else none
 | .dictS l=>a.asStr?.map fun k=>(l.lookup k).isSome
 |_=>none
noncomputable def tri3(d:D):List D->Option (xO×D×D)
 |[b,c]=>match d with
  | .dictS a=>some (a,b,c)
  |_=>none
 |_=>none
noncomputable def eN(x:D):Option (xO×D×D):=match x with
 | .tup l=>(match l with
   |d::r=>tri3 d r
   |[]=>none)
 |_=>none
noncomputable def uK(x y:D):Option Bool:=(eN x).bind fun p=>(eN y).bind fun p'=>if p.1.map (·.1)=p'.1.map (·.1)/\D.likes (p.1.map (·.2)) (p'.1.map (·.2))=true/\D.like p.2.1 p'.2.1=true/\D.like p.2.2 p'.2.2=true/\D.deps (p.1.map (·.2))<=20/\D.dep p.2.1<=20/\D.dep p.2.2<=20/\D.beqs (p.1.map (·.2)) (p'.1.map (·.2))=true/\D.beq p.2.1 p'.2.1=true/\D.beq p.2.2 p'.2.2=true then some false else none
noncomputable def nC(f:Int->Int->Bool)(x y:D):Option Bool:=match x with
 | .int a=>(match y with
   | .int b=>some (f a b)
   |_=>none)
 |_=>none
noncomputable def isD(x y:D):Option Bool:=match y with
 | .none=>x.asStr?.map fun _=>false
 |_=>none
noncomputable def wb(op:CmpOp)(x y:D):Option Bool:=match op with
 | .Eq=>if D.like x y&&decide (D.dep x<=20) then some (D.beq x y) else none
 | .NotEq=>if D.like x y&&decide (D.dep x<=20) then some (!D.beq x y) else uK x y
 | .Lt=>nC (fun a b=>decide (a<b)) x y
 | .Gt=>nC (fun a b=>decide (a > b)) x y
 | .GtE=>nC (fun a b=>decide (a≥b)) x y
 | .In=>inD x y
 | .NotIn=>(inD x y).map (!·)
 | .Is=>isD x y
 |_=>none
noncomputable def truD0:D->Option Bool
 | .bool b=>some b
 | .list l=>if l.length<=lim then some (!l.isEmpty) else none
 |_=>none
noncomputable def kn(d:D):Option Bool:=truD0 d.flat
noncomputable def ju:D->Option (List D)
 | .list l=>some l
 | .tup l=>some l
 | .rng a b=>if small a&&small b&&decide (b - a<=1000) then some ((List.range (b - a).toNat).map fun(k:Nat)=>D.int (a+(k:Int))) else none
 |_=>none
noncomputable def kS:Int->List Int->Int
 |a,[]=>a
 |a,b::r=>kS (if b > a then b else a) r
noncomputable def ui(as:List D)(k1:D->Option D):Option D:=zR as k1 fun _ _=>none
noncomputable def strK(c:Const):Option Str:=by
 induction c using cC with
 |str y=>exact some y
 |_=>exact none
noncomputable def intK(c:Const):Option Int:=by
 induction c using cC with
 |int y=>exact some y
 |_=>exact none
noncomputable def strC?(e:Expr):Option Str:=by
 induction e using cE with
 |Constant c _ _=>exact strK c
 |_=>exact none
noncomputable def intC?(e:Expr):Option Int:=by
 induction e using cE with
 |Constant c _ _=>exact intK c
 |_=>exact none
noncomputable def bj:D->Option D
 | .list l=>if l.length<=lim then some (.int l.length) else none
 | .str x=>if x.length<=lim then some (.int x.length) else none
 |_=>none
noncomputable def vp(l:List D):Option D:=if l.length<64 then (strs? l).map fun ss=> .list ((xv ss).map .str) else none
noncomputable def bh:List Int->Option D
 |[]=>none
 |a::r=>some (.int (kS a r))
noncomputable def q8(f:Str)(as:List D):Option D:=
 if f="len" then ui as bj
 else if f="sum" then ui as fun a=>a.asList?.bind fun l=>(ints? l).map fun ns=> .int ns.sum
 else if f="range" then ui as fun a=>a.asInt?.map fun n=> .rng 0 n
 else if f="sorted" then ui as fun a=>a.asList?.bind vp
 else if f="max" then zR as (fun a=>a.asList?.bind fun l=>(ints? l).bind bh) fun a b=>a.asInt?.bind fun x=>b.asInt?.map fun y=> .int (if y > x then y else x)
 else if f="str" then ui as fun a=>a.asInt?.bind fun i=>if small i then some (.str (Str.ofString (toString i))) else none
 else if f="int" then ui as fun a=>a.asStr?.bind fun x=>if x.length<=640 then (intText? x).map .int else none
 else none
noncomputable def jD9(x y:Str)(i:Int):Int:=match Builtin.Str.occurrences x y (fromIndex x.length i) x.length 1 with
 |k::_=>(k:Int)
 |[]=> -1
noncomputable def oP(x y:Str):Option D:=if y.length=1/\x.length<=1000/\(decide (x.length<y.length)||decide (Builtin.Str.strKind x<Builtin.Str.strKind y))=false/\(Builtin.Str.occurrences x y 0 x.length (x.length+1)).isEmpty=false/\(Builtin.Str.partsBetween x (Builtin.Str.occurrences x y 0 x.length (x.length+1)) y.length).length<=1000 then some (.list ((Builtin.Str.partsBetween x (Builtin.Str.occurrences x y 0 x.length (x.length+1)) y.length).map .str)) else none
noncomputable def rI(x:Str)(l:List D):Option D:=if x.length=0/\l.length<=1000 then (strs? l).bind fun ss=>if ss.all (fun s=>decide (s.length<=1000)) then some (.str (Txt.join x ss)) else none else none
noncomputable def gc(l:List D)(x:D):Option D:=if l.length<=1000/\l.all (fun y=>D.like y x&&decide (D.dep y<=20)) then (l.findIdx? (fun y=>D.beq y x)).map fun k:Nat=> .int k else none
noncomputable def kC(o:D)(f:Str)(as:List D):Option D:=
 if f="find" then o.asStr?.bind fun x=>zR as (fun a=>a.asStr?.map fun y=> .int (Txt.find x y)) fun a b=>a.asStr?.bind fun y=>b.asInt?.map fun i=> .int (jD9 x y i)
 else if f="split" then o.asStr?.bind fun x=>ui as fun a=>a.asStr?.bind fun y=>oP x y
 else if f="join" then o.asStr?.bind fun x=>ui as fun a=>a.asList?.bind fun l=>rI x l
 else if f="index" then o.asList?.bind fun l=>ui as fun x=>gc l x
 else none
noncomputable def qt(l:xO)(k:Str)(v:D):xO:=if (l.lookup k).isSome then l.map fun p=>if p.1=k then (p.1,v) else p else l++[(k,v)]
noncomputable def oD{β:Type}(d:D)(k:D->D->Option β):Option β:=match d with
 | .tup l=>zR l (fun _=>none) k
 |_=>none
noncomputable def pairS?(d:D):Option (Str×D):=oD d fun a b=>a.asStr?.map fun k=>(k,b)
noncomputable def dictS? :xO->List D->Option xO
 |acc,[]=>some acc
 |acc,d::r=>(pairS? d).bind fun p=>dictS? (qt acc p.1 p.2) r
structure Ev where
 E:Bool->Scope->Loc->Expr->Option D
 S:Bool->Scope->jQ->Stmt->Option (Fl×jQ)
noncomputable def nameE?(e:Expr):Option Str:=by
 induction e using cE with
 |Name b _=>exact some b
 |_=>exact none
noncomputable def pairN(es:List Expr):List Str:=((zR es (fun _=>none) fun a b=>(nameE? a).bind fun x=>(nameE? b).map fun y=>[x,y])).getD []
noncomputable def xh(e:Expr):List Str:=by
 induction e using cE with
 |Name x _=>exact[x]
 |Tuple es _ _=>exact pairN es
 |_=>exact[]
noncomputable def cn{β:Type}(ns:List Str)(z:β)(f:Str->β)(g:Str->Str->β):β:=match ns with
 |[]=>z
 |x::r=>match r with
  |[]=>f x
  |y::_=>g x y
noncomputable def wU(l:Loc)(t:Expr)(d:D):Option Loc:=cn (xh t) none (fun x=>if (l x).isSome=true then none else some (jA l x d)) fun x y=>oD d fun a b=>if (l x).isSome=true\/(l y).isSome=true then none else some (jA (jA l x a) y b)
noncomputable def wd(l:jQ)(t:Expr)(d:D):Option jQ:=cn (xh t) none (fun x=>some (jA l x (.val d))) fun x y=>oD d fun a b=>some (jA (jA l x (.val a)) y (.val b))
section
variable(fns:List (Str×Fn))(glob:xO)(r:Ev)(k:Bool)
noncomputable def wG(sc:Scope)(l:Loc):List Expr->Option (List D)
 |[]=>some []
 |e::es=>if PySem.W.isStarred e=true then none else do
  let d<-r.E k sc l e
  let ds<-wG sc l es
  some (d::ds)
noncomputable def qZ(e:Expr):Bool:=by
 induction e using cE with
 |Set _ _ _=>exact true
 |_=>exact false
noncomputable def uj(sc:Scope)(t:Expr):Bool:=cn (xh t) false (fun x=>decide (sc.names.lookup x=some .local\/sc.names.lookup x=some .cell)) fun x y=>decide ((sc.names.lookup x=some .local\/sc.names.lookup x=some .cell)/\(sc.names.lookup y=some .local\/sc.names.lookup y=some .cell)/\x≠y)
noncomputable def jm(sc jS:Scope)(gens:List Comprehension):Bool:=
 decide (jS.kind= .function)&&decide ((jS.names.map (·.1)).Nodup)&&jS.names.all (fun p=>decide (p.2= .free->sc.names.lookup p.1=some .cell\/sc.names.lookup p.1=some .free))&&gens.all fun g=>decide (g.is_async=0)&& !qZ g.iter&&uj jS g.target
noncomputable def btB(f:Expr->Option Bool)(op:BoolOp)(es:List Expr):Option Bool:=match op with
 | .And=>zR es (fun _=>none) fun x y=>(f x).bind fun b=>if b=true then f y else some false
 | .Or=>zR es (fun _=>none) fun x y=>(f x).bind fun b=>if b=true then some true else f y
noncomputable def notU(op:UnaryOp)(o:Option Bool):Option Bool:=by
 induction op using cU with
 |Not=>exact o.map (!·)
 |_=>exact none
noncomputable def btC(sc:Scope)(l:Loc)(x:Expr)(ops:List CmpOp)(ys:List Expr):Option Bool:=lH ops fun op=>lH ys fun y=>if qZ y=true then none else (r.E k sc l x).bind fun a=>(r.E k sc l y).bind fun b=>wb op a b
noncomputable def btE(sc:Scope)(l:Loc)(f:Expr->Option Bool)(e:Expr):Option Bool:=by
 induction e using cE with
 |UnaryOp op x _=>exact notU op (f x)
 |BoolOp op es _=>exact btB f op es
 |Compare x ops ys _=>exact btC r k sc l x ops ys
 |Name x p=>exact(r.E k sc l (.Name x p)).bind kn
 |Call g as ks p=>exact(r.E k sc l (.Call g as ks p)).bind kn
 |_=>exact none
noncomputable def Bt(sc:Scope)(l:Loc):Nat->Expr->Option Bool
 |0,_=>none
 |n+1,e=>btE r k sc l (Bt sc l n) e
noncomputable def xK(sc:Scope)(l:Loc):List Expr->Option Bool
 |[]=>some true
 |e::es=>match es with
  |[]=>Bt r k sc l 4 e
  |_::_=>none
noncomputable def compLoop(sc:Scope)(l:Loc)(g:Comprehension)(deep:Loc->Option (List D)):List D->Option (List D)
 |[]=>some []
 |d::ds=>do
  let l'<-wU l g.target d
  let ok<-xK r k sc l' g.ifs
  let here<-if ok then deep l' else some []
  let more<-compLoop sc l g deep ds
  some (here++more)
noncomputable def uJ(sc:Scope)(ke ve:Expr)(l:Loc):Option D:=(r.E k sc l ke).bind fun a=>(r.E k sc l ve).bind fun b=>a.asStr?.map fun x=> .tup [.str x,b]
noncomputable def comp(sc:Scope)(emit:Loc->Option D):List Comprehension->Loc->List D->Option (List D)
 |[],_,_=>none
 |[g],l,its=>compLoop r k sc l g (fun l'=>(emit l').map fun x=>[x]) its
 |g::g'::gs,l,its=>compLoop r k sc l g (fun l'=>do
   let yy<-(r.E k sc l' g'.iter).bind ju
   comp sc emit (g'::gs) l' yy) its
noncomputable def nxt(x:Fl×jQ)(k:jQ->Option (Fl×jQ)):Option (Fl×jQ):=match x.1 with
 | .next=>k x.2
 | .brk=>some x
 | .ret _=>some x
 | .exc _ _=>some x
noncomputable def qV(sc:Scope):jQ->List Stmt->Option (Fl×jQ)
 |l,[]=>some (.next,l)
 |l,s::ss=>(r.S k sc l s).bind fun x=>nxt x fun l=>qV sc l ss
noncomputable def nxtF(x:Fl×jQ)(k:jQ->Option (Fl×jQ)):Option (Fl×jQ):=match x.1 with
 | .next=>k x.2
 | .brk=>some x
 | .ret _=>some x
 | .exc _ _=>none
noncomputable def forL(sc:Scope)(t:Expr)(body:List Stmt):jQ->List D->Option (Fl×jQ)
 |l,[]=>some (.next,l)
 |l,d::ds=>(wd l t d).bind fun l1=>(qV r k sc l1 body).bind fun x=>nxtF x fun l=>forL sc t body l ds
noncomputable def y5:List Str->List D->Option jQ
 |[],[]=>some fun _=>none
 |x::xs,d::ds=>(y5 xs ds).map fun l=>jA l x (.val d)
 |_,_=>none
noncomputable def zW(l:Loc):List Str->List D->Option Loc
 |[],[]=>some l
 |x::xs,d::ds=>(zW l xs ds).map fun l=>jA l x d
 |_,_=>none
noncomputable def zK(f:Str)(as:List D):Option (Fl×jQ):=do
 let fn<-fns.lookup f
 let l<-y5 fn.names as
 qV r false fn.scope l fn.body
noncomputable def qB:Fl×jQ->Option D
 |(.ret d,_)=>some d
 |_=>none
noncomputable def fb(sc:Scope)(ps:Arguments)(qi:Scope):Bool:=k&&zq ps&&ps.defaults.isEmpty&&ps.kw_defaults.isEmpty&& !qi.isCoroutine&& !qi.isGenerator&&decide (qi.kind= .function)&&decide ((qi.names.map (·.1)).Nodup)&&
   ps.args.all (fun a=>decide (qi.names.lookup a.arg=some .local\/qi.names.lookup a.arg=some .cell))&&qi.names.all (fun p=>decide (p.2= .free->sc.names.lookup p.1=some .cell\/sc.names.lookup p.1=some .free))
noncomputable def vR(sc:Scope)(e:Expr):Bool:=by
 induction e using cE with
 |Lambda ps _ qi _=>exact fb k sc ps qi
 |_=>exact false
noncomputable def zX(l:Loc)(f:Expr)(as:List D):Option D:=by
 induction f using cE with
 |Lambda ps body qi _=>exact(zW (jL qi l) (ps.args.map (·.arg)) as).bind fun l'=>r.E false qi l' body
 |_=>exact none
noncomputable def zJ(l:Loc)(f:Expr):D->List D->Option D
 |a,[]=>some a
 |a,d::ds=>do
  let a'<-zX r l f [a,d]
  zJ l f a' ds
noncomputable def zG(sc:Scope)(l:Loc):Option Expr->Option (Option Int)
 |none=>some none
 |some e=>(r.E k sc l e).bind fun d=>d.asInt?.map some
noncomputable def rH:Fl×jQ->Option (Fl×jQ)
 |(.exc _ _,_)=>none
 |x=>some x
noncomputable def zM(e:Expr):Bool:=by
 induction e using cE with
 |Call _ _ _ _=>exact true
 |_=>exact false
noncomputable def jGi:D->Bool
 | .list _=>true
 | .int _=>true
 |_=>false
noncomputable def pH(l:Loc)(g:Expr):List D->Option D
 |[]=>none
 |a::ds=>zJ r l g a ds
noncomputable def dX(sc:Scope)(l:Loc)(g s i:Expr):Option D:=if vR k sc g=false\/PySem.W.isStarred s=true\/PySem.W.isStarred i=true then none else (r.E k sc l s).bind fun d=>(r.E k sc l i).bind fun a=>d.asList?.bind fun ds=>if jGi a=true then zJ r l g a ds else none
noncomputable def md(sc:Scope)(l:Loc)(args:List Expr):Option D:=match args with
 |[]=>none
 |g::r2=>match r2 with
  |[]=>none
  |s::r3=>match r3 with
   |[]=>if vR k sc g=false\/PySem.W.isStarred s=true then none else (r.E k sc l s).bind fun d=>d.asList?.bind (pH r l g)
   |i::r4=>match r4 with
    |[]=>dX r k sc l g s i
    |_::_=>none
noncomputable def pL(sc:Scope)(l:Loc)(args:List Expr):Option D:=zR args (fun _=>none) fun a b=>(nameE? b).bind fun b=>if b="list"/\sc.names.lookup b=some .globalImplicit/\PySem.W.isStarred a=false then (r.E k sc l a).bind fun d=>d.asList?.map fun _=> .bool true else none
noncomputable def pG(o:Option D)(args:List Expr):Option D:=zR args (fun _=>none) fun a b=>(strC? a).bind fun y=>(strC? b).bind fun z=>o.bind fun d=>d.asStr?.bind fun x=>if (fns.lookup ("_law_said":Str)).isSome=true/\x.length<=1000/\z.length<=14/\(y==z)=false then some (.str (Txt.replace x y z)) else none
noncomputable def constD(c:Const):Option D:=by
 induction c using cC with
 |none=>exact some .none
 |bool b=>exact some (.bool b)
 |int i=>exact some (.int i)
 |str s=>exact some (.str s)
 |_=>exact none
noncomputable def ec(kd:NameKind)(a b:Option D):Option D:=by
 cases kd with
 |«local»=>exact a
 |cell=>exact a
 |free=>exact a
 |globalImplicit=>exact b
 |_=>exact none
noncomputable def nameD(sc:Scope)(l:Loc)(x:Str):Option D:=if (x==("__debug__":Str)||x==("__classdict__":Str))=true then none else (sc.names.lookup x).bind fun kd=>ec kd (l x) (if (fns.lookup x).isSome then none else glob.lookup x)
noncomputable def negD(op:UnaryOp)(x:Expr):Option D:=by
 induction op using cU with
 |USub=>exact(intC? x).map fun i=> .int (-i)
 |_=>exact none
noncomputable def lcD(sc:Scope)(l:Loc)(elt:Expr)(gens:List Comprehension)(jS:Scope):Option D:=match gens with
  |[]=>none
  |g::_=>do
   let its<-(r.E k sc l g.iter).bind ju
   if jm sc jS gens=true then
   let ds<-comp r k (jR sc jS) (fun l'=>r.E k (jR sc jS) l' elt) gens (jL jS l) its
   if ds.length<=lim then some (.list ds) else none
   else none
noncomputable def dcD(sc:Scope)(l:Loc)(ke ve:Expr)(gens:List Comprehension)(jS:Scope):Option D:=match gens with
  |[]=>none
  |g::gs=>match gs with
   |[]=>do
    let its<-(r.E k sc l g.iter).bind ju
    if jm sc jS [g]=true then
    (comp r k (jR sc jS) (uJ r k (jR sc jS) ke ve) [g] (jL jS l) its).bind fun ps=>if ps.length<=lim then (dictS? [] ps).map .dictS else none
    else none
   |_::_=>none
noncomputable def cmpE(sc:Scope)(l:Loc)(a:Expr)(ops:List CmpOp)(bs:List Expr):Option D:=lH ops fun op=>lH bs fun b=>if qZ b=true then none else (r.E k sc l a).bind fun x=>(r.E k sc l b).bind fun y=>(wb op x y).map .bool
noncomputable def sl?(e:Expr):Option (Option Expr×Option Expr×Option Expr):=by
 induction e using cE with
 |Slice lo hi st _=>exact some (lo,hi,st)
 |_=>exact none
noncomputable def fW(d:D)(lo hi st:Option Int):Option D:=match d with
 | .list ds=>if st≠some 0/\ds.length<=lim then some (.list (pick ds lo hi st)) else none
 | .str x=>if st=none/\x.length<=lim then some (.str (Txt.slice x lo hi)) else none
 |_=>none
noncomputable def fX(sc:Scope)(l:Loc)(v:Expr)(lo hi st:Option Expr):Option D:=(r.E k sc l v).bind fun d=>(zG r k sc l lo).bind fun lo=>(zG r k sc l hi).bind fun hi=>(zG r k sc l st).bind fun st=>fW d.flat lo hi st
noncomputable def subD(sc:Scope)(l:Loc)(v s:Expr):Option D:=match sl? s with
 |some q=>fX r k sc l v q.1 q.2.1 q.2.2
 |none=>(r.E k sc l v).bind fun x=>(r.E k sc l s).bind fun y=>wN x y
noncomputable def jI1(sc:Scope)(l:Loc)(f:Str)(args:List Expr):Option D:=
  if sc.names.lookup f≠some .globalImplicit\/(f==("__debug__":Str))=true then none else
  if f="reduce" then md r k sc l args
  else if f="isinstance" then pL r k sc l args
  else if (fns.lookup f).isSome then (wG r k sc l args).bind fun as=>(zK fns r f as).bind qB
  else (wG r k sc l args).bind fun as=>q8 f as
noncomputable def uZ(sc:Scope)(l:Loc)(o:Expr)(m:Str)(ap:Pos)(args:List Expr)(cp:Pos):Option D:=if zM o=true\/(ap.endLine==cp.line)=false\/args.length≥20\/args.length=0 then none else
  if m="replace" then pG fns (r.E k sc l o) args
  else (r.E k sc l o).bind fun d=>(wG r k sc l args).bind fun as=>kC d m as
noncomputable def kw0(ks:List Keyword)(o:Option D):Option D:=match ks with
 |[]=>o
 |_::_=>none
noncomputable def callE(sc:Scope)(l:Loc)(f:Expr)(args:List Expr)(ks:List Keyword)(cp:Pos):Option D:=by
 induction f using cE with
 |Name f _=>exact kw0 ks (jI1 fns r k sc l f args)
 |Attribute o m ap=>exact kw0 ks (uZ fns r k sc l o m ap args cp)
 |_=>exact none
noncomputable def xc(sc:Scope)(l:Loc)(e:Expr):Option D:=by
 induction e using cE with
 |Constant c _ _=>exact constD c
 |Name x _=>exact nameD fns glob sc l x
 |BinOp a op b _=>exact(r.E k sc l a).bind fun x=>(r.E k sc l b).bind fun y=>wy op x y
 |UnaryOp op x _=>exact negD op x
 |IfExp t a b _=>exact(Bt r k sc l 4 t).bind fun c=>if c=true then r.E k sc l a else r.E k sc l b
 |List es _=>exact(wG r k sc l es).bind fun ds=>if ds.length<=lim then some (.list ds) else none
 |Tuple es _ _=>exact(wG r k sc l es).bind fun ds=>if ds.length<=lim then some (.tup ds) else none
 |ListComp elt gens jS _=>exact lcD r k sc l elt gens jS
 |DictComp ke ve gens jS _=>exact dcD r k sc l ke ve gens jS
 |Compare a ops bs _=>exact cmpE r k sc l a ops bs
 |Subscript v s _=>exact subD r k sc l v s
 |Call f args ks cp=>exact callE fns r k sc l f args ks cp
 |_=>exact none
noncomputable def vV(e:Expr):Bool:=by
 induction e using cE with
 |Tuple _ _ _=>exact true
 |_=>exact false
noncomputable def call1?(e:Expr):Option (Expr×Expr×Pos):=by
 induction e using cE with
 |Call f as ks cp=>exact match ks with
  |[]=>zR as (fun a=>some (f,a,cp)) fun _ _=>none
  |_::_=>none
 |_=>exact none
noncomputable def attrN?(e:Expr):Option (Str×Str×Pos):=by
 induction e using cE with
 |Attribute o m ap=>exact(nameE? o).map fun x=>(x,m,ap)
 |_=>exact none
noncomputable def D.asTup? :D->Option (List D)
 | .tup i=>Option.some i
 |_=>Option.none
noncomputable def xg(e:Expr):Bool:=((call1? e).bind fun q=>nameE? q.1).any fun x=>decide (x=("enumerate":Str))
noncomputable def ou(sc:Scope)(l:Loc)(e:Expr):Option (List D):=if sc.names.lookup ("enumerate":Str)=some .globalImplicit/\PySem.W.isStarred e=false then (r.E k sc l e).bind fun d=>d.asTup?.bind fun ds=>if ds.length<=1000 then some (ds.mapIdx fun k d=> .tup [.int k,d]) else none else none
noncomputable def zV(sc:Scope)(l:Loc)(i:Expr):Option (List D):=if xg i=true then (call1? i).bind fun q=>ou r k sc l q.2.1 else (r.E k sc l i).bind ju
noncomputable def isAdd(op:Operator):Bool:=by
 induction op using cP with
 |Add=>exact true
 |_=>exact false
noncomputable def zj(e:Expr):Bool:=by
 induction e using cE with
 |List _ _=>exact true
 |BinOp _ op _ _=>exact isAdd op
 |_=>exact false
noncomputable def ownB? :B->Option (List D)
 | .own ds=>some ds
 |_=>none
noncomputable def assS(sc:Scope)(l:jQ)(ts:List Expr)(e:Expr):Option (Fl×jQ):=zR ts (fun t=>(nameE? t).bind fun x=>if uj sc t=false then none else (r.E k sc (jV l) e).bind fun d=>if gL.contains x=true then (if zj e=true then d.asList?.map fun ds=>(.next,jA l x (.own ds)) else none) else some (.next,jA l x (.val d))) fun _ _=>none
noncomputable def dT(sc:Scope)(l:jQ)(x m:Str)(ap:Pos)(a:Expr)(cp:Pos):Option (Fl×jQ):=if (ap.endLine==cp.line)=false\/PySem.W.isStarred a=true\/(x==("__debug__":Str))=true\/(x==("__classdict__":Str))=true then none else ((l x).bind ownB?).bind fun ds=>(r.E k sc (jV l) a).bind fun d=>
 if m="append" then (if ds.length<=lim then some (.next,jA l x (.own (ds++[d]))) else none)
 else if m="extend" then d.asList?.bind fun es=>if ds.length+es.length<=lim then some (.next,jA l x (.own (ds++es))) else none
 else none
noncomputable def exprS(sc:Scope)(l:jQ)(e:Expr):Option (Fl×jQ):=(call1? e).bind fun q=>(attrN? q.1).bind fun a=>dT r k sc l a.1 a.2.1 a.2.2 q.2.1 q.2.2
noncomputable def aftS(sc:Scope)(orelse:List Stmt)(x:Fl×jQ):Option (Fl×jQ):=match x.1 with
 | .next=>(qV r k sc x.2 orelse).bind rH
 | .brk=>some (.next,x.2)
 | .ret _=>some x
 | .exc _ _=>some x
noncomputable def tu(sc:Scope)(l:jQ)(t i:Expr)(body orelse:List Stmt):Option (Fl×jQ):=if (uj sc t&& !qZ i&&(vV t|| !xg i))=false then none else (zV r k sc (jV l) i).bind fun its=>(forL r k sc t body l its).bind (aftS r k sc orelse)
noncomputable def goS(n:Nat)(sc:Scope)(s:Stmt)(x:Fl×jQ):Option (Fl×jQ):=match x.1 with
 | .next=>match n with
   |0=>none
   |_+1=>r.S k sc x.2 s
 | .brk=>some (.next,x.2)
 | .ret d=>some (.ret d,x.2)
 | .exc _ _=>none
noncomputable def eJ(n:Nat)(sc:Scope)(l:jQ)(t:Expr)(body:List Stmt)(s:Stmt):Option (Fl×jQ):=(Bt r k sc (qx l) 4 t).bind fun b=>if b=true then (qV r k sc l body).bind (goS r k n sc s) else some (.next,l)
noncomputable def fZ(sc:Scope)(l:jQ)(e:Expr):Option (Fl×jQ):=(call1? e).bind fun q=>(nameE? q.1).bind fun c=>if (c≠"error_reply"/\c≠"error_proto")\/sc.names.lookup c≠some .globalImplicit\/PySem.W.isStarred q.2.1=true then none else (r.E k sc (jV l) q.2.1).map fun d=>(.exc c d,l)
noncomputable def whE(n:Nat)(sc:Scope)(l:jQ)(t:Expr)(body orelse:List Stmt)(p:Pos):Option (Fl×jQ):=match orelse with
 |[]=>eJ r k n sc l t body (.While t body [] p)
 |_::_=>none
noncomputable def raiseE(sc:Scope)(l:jQ)(e c:Option Expr):Option (Fl×jQ):=match c with
 |none=>e.bind (fZ r k sc l)
 |some _=>none
noncomputable def vQ(n:Nat)(sc:Scope)(l:jQ)(st:Stmt):Option (Fl×jQ):=by
 induction st using cS with
 |Assign ts e _=>exact assS r k sc l ts e
 |Expr e _=>exact exprS r k sc l e
 |If t a b _=>exact(Bt r k sc (qx l) 4 t).bind fun c=>if c=true then qV r k sc l a else qV r k sc l b
 |For t i body orelse _=>exact tu r k sc l t i body orelse
 |While t body orelse p=>exact whE r k n sc l t body orelse p
 |Return e _=>exact e.bind fun e=>(r.E k sc (qx l) e).map fun d=>(.ret d,l)
 |Break _=>exact some (.brk,l)
 |Raise e c _=>exact raiseE r k sc l e c
 |_=>exact none
end
noncomputable def ev(fns:List (Str×Fn))(glob:xO):Nat->Ev
 |0=>⟨fun _ _ _ _=>none,fun _ _ _ _=>none⟩
 |n+1=>⟨xc fns glob (ev fns glob n),fun k=>vQ (ev fns glob n) k n⟩
theorem arF{i:Int}{n:Nat}(h:i<n)(k:n<=lim):i<2 ^ 63:=Int.lt_trans h (Int.lt_of_le_of_lt (Int.ofNat_le.mpr k) kD)
theorem arG{i:Int}{n:Nat}(h: -(n:Int)<=i)(k:n<=lim): -(2 ^ 63)<=i:=Int.le_trans (Int.le_trans kD (Int.neg_le_neg (Int.ofNat_le.mpr k))) h
theorem eG{a:Int}(h:small a=true): -(2:Int) ^ 60<a/\a<2 ^ 60:=by
 have h:a.natAbs<2 ^ 60:=of_decide_eq_true h
 omega
theorem arM{a b:Nat}:(if (b:Int) > (a:Int) then (b:Int) else (a:Int))=((max a b:Nat):Int):=by
 by_cases h:a<b
 ·rw[if_pos (Int.ofNat_lt.mpr h),Nat.max_eq_right (Nat.le_of_lt h)]
 ·rw[if_neg (fun k=>h (Int.ofNat_lt.mp k)),Nat.max_eq_left (Nat.le_of_not_lt h)]
open PySem.W
structure Cx where
 prog:Program
 w:World
 g0:Heap
 P:Addr
 mg:Str->Option Value
 mb:Str->Option Value
 fns:List (Str×Fn)
 glob:xO
 c:Addr
 lq:Str
noncomputable abbrev Cx.M(C:Cx):Model:=model C.prog C.w
abbrev RD(C:Cx)(h:Heap)(Y:List Addr)(v:Value)(d:D):Prop:=R C.prog C.w (view h Y) v d
abbrev q5(C:Cx)(h:Heap)(Y:List Addr)(v:List Value)(d:List D):Prop:=Rs C.prog C.w (view h Y) v d
noncomputable def ya:List Str:=["len","sum","range","sorted","max","str","int","list","enumerate","isinstance","set","iter","next"]
noncomputable def vA:List Str:=["__init__","__getattribute__","__getattr__","args","__str__"]
noncomputable def uI:List Value:=[.type "Exception",.type "BaseException",.type "object"]
def nH(h:Heap)(cl kX:Addr):Prop:=∃(nm q:Str) (N:Addr) (bs:List Value) (hdct:Bool) (sn:List Str) (sub:List Value) (ab:Bool) (col:Option Bool) (dd:Option Addr) (k0 k1 k2 k3 k5:Option Value) (newId Bn inN:String) (bmN:List Value)
    (c0:Value) (sW:Option Addr) (cd:ClassData) (sl:Array (Option Value)) (mN mE:Str->Option Value),
 ExcBaseFacts Bn newId inN bmN/\uI.contains (.type Bn)=true/\h.get? cl=some (excClassObj nm q cl N bs (.ref kX::uI) hdct sn sub ab col dd k0 k1 k2 k3 k5 newId)/\h.Ns N mN/\(∀x∈vA,mN x=none)/\
 h.get? kX=some { cls:=c0,dict:=sW,data:= .cls cd,slots:=sl }/\h.Ns cd.ns mE/\∀x∈vA,mE x=none
noncomputable def bb(p1 p2 p3:Pos)(es:List Expr):Arguments:=⟨[],[⟨"function",none,p1⟩,⟨"sequence",none,p2⟩,⟨"initial",none,p3⟩],none,[],[],none,es⟩
noncomputable def rIt(p:Nat->Pos):Stmt:= .Assign [.Name "it" (p 0)] (.Call (.Name "iter" (p 1)) [.Name "sequence" (p 2)] [] (p 3)) (p 4)
noncomputable def rNx(p:Nat->Pos):Stmt:= .Assign [.Name "value" (p 8)] (.Call (.Name "next" (p 9)) [.Name "it" (p 10)] [] (p 11)) (p 12)
noncomputable def rVi(p:Nat->Pos):Stmt:= .Assign [.Name "value" (p 14)] (.Name "initial" (p 15)) (p 16)
noncomputable def rIf(p:Nat->Pos)(hs:List ExceptHandler):Stmt:= .If (.Compare (.Name "initial" (p 5)) [.Is] [.Name "_initial_missing" (p 6)] (p 7)) [.Try [rNx p] hs [] [] (p 13)] [rVi p] (p 17)
noncomputable def rB(p:Nat->Pos):Stmt:= .Assign [.Name "value" (p 20)] (.Call (.Name "function" (p 21)) [.Name "value" (p 22),.Name "element" (p 23)] [] (p 24)) (p 25)
noncomputable def rFor(p:Nat->Pos):Stmt:= .For (.Name "element" (p 18)) (.Name "it" (p 19)) [rB p] [] (p 26)
noncomputable def eY(p:Nat->Pos):List Stmt:=[rFor p,.Return (some (.Name "value" (p 27))) (p 28)]
structure dj(fn:Fn):Prop where
 ok:uc fn=true
 names:fn.names=(["function","sequence","initial"]:List Str)
 params:∃p1 p2 p3 es,fn.params=bb p1 p2 p3 es
 loc:∀x∈(["function","sequence","initial","it","value","element"]:List Str),fn.scope.names.lookup x=some .local
 glb:∀x∈(["iter","next","_initial_missing"]:List Str),fn.scope.names.lookup x=some .globalImplicit
 shape:∃(p:Nat->Pos) (h0:ExceptHandler) (hs:List ExceptHandler),fn.body=rIt p::rIf p (h0::hs)::eY p
structure Base(C:Cx):Prop where
 g:C.g0.Ns mainGlobals C.mg
 b:C.g0.Ns builtinsNs C.mb
 nolimit:C.g0.NoLimit
 hP:C.g0.get? C.P=none
 fn:∀x f,C.fns.lookup x=some f->∃a o pm code doc,C.mg x=some (.ref a)/\C.g0.get? a=some o/\o.data= .func (docDef x f.params f.body f.scope pm code doc)/\C.g0.CodeRec code x
 okf:∀x f,C.fns.lookup x=some f->uc f=true
 gl:∀x d,C.glob.lookup x=some d->∃v,C.mg x=some v/\R C.prog C.w C.g0.get? v d
 bi:∀x∈ya,C.mg x=none/\C.mb x=bootBuiltins x
 sys:(C.g0.get? sysModules).isSome=true
 red:∃(fn:Fn) (ar:Addr) (o:Obj) (pm code doc:Value) (dt ai:Addr) (tI:Obj) (nt:Nat) (oi:Obj),dj fn/\C.mg "reduce"=some (.ref ar)/\C.g0.get? ar=some o/\o.data= .func { docDef "reduce" fn.params fn.body fn.scope pm code doc with defaults:= .ref dt }/\C.g0.CodeRec code "reduce"/\
  C.g0.get? dt=some tI/\tI.data= .seq #[.ref ai] nt/\C.mg "_initial_missing"=some (.ref ai)/\C.g0.get? ai=some oi/\oi.cls= .type "object"
 hd:CodeHd C.g0 C.c C.P
 bat:∃bm o,C.mg "__builtins__"=some (.ref bm)/\bm≠builtinsNs/\bm≠mainGlobals/\C.g0.get? bm=some o/\o.cls= .type "module"/\o.dict=some builtinsNs/\o.data= .plain
 exc:∃xC xE kX,C.mg "error_reply"=some (.ref xC)/\C.mg "error_proto"=some (.ref xE)/\nH C.g0 xC kX/\nH C.g0 xE kX/\xC≠xE/\xC≠kX/\xE≠kX
inductive jl (C:Cx) (h:Heap):Prop
 |mk:∀ps,h.get? C.P=some (tabObj ps)->TriplesOk ps.toList->(∀pos cv,codeAmong pos ps.toList=some cv->h.CodeRec cv C.lq)->jl C h
structure Gr(C:Cx)(s:Shared):Prop where
 keep:∀b o,C.g0.get? b=some o->s.heap.get? b=some o
 tab:jl C s.heap
 toks:(C.fns.lookup ("_law_said":Str)).isSome=true->0<s.toks
def jx(C:Cx)(h:Heap)(c:Addr):Prop:=∃ps pos,h.get? C.P=some (tabObj ps)/\codeAmong pos ps.toList=some (.ref c)
def qX(C:Cx)(h h':Heap):Prop:=jl C h->jl C h'/\∀c,jx C h' c->jx C h c\/h.get? c=none
inductive KP (C:Cx) (s s':Shared):Prop
 |mk:∀h' tk,s'={ s with heap:=h',toks:=tk }->s.toks<=tk->((∀b o,b≠C.P->s.heap.get? b=some o->h'.get? b=some o))->qX C s.heap h'->KP C s s'
theorem jl.keeps{C:Cx}{h h':Heap}(x:jl C h)(k:∀b o,h.get? b=some o->h'.get? b=some o):jl C h':=by
 obtain⟨ps,h1,h2,h3⟩:=x
 exact⟨ps,k _ _ h1,h2,fun pos cv e=>(h3 pos cv e).keeps k⟩
theorem qX.keeps{C:Cx}{h h':Heap}(k:∀b o,h.get? b=some o->h'.get? b=some o):qX C h h':=fun x=>
 ⟨x.keeps k,fun c hc=>by
  obtain⟨ps,h1,h2,h3⟩:=x
  refine qU hc fun tA pos e1 e2=> ?_;clear hc
  rw[k _ _ h1] at e1
  cases e1
  exact .inl ⟨ps,pos,h1,e2⟩⟩
theorem jl.code{C:Cx}{h:Heap}(x:jl C h){c:Addr}(hc:jx C h c):∃o,h.get? c=some o:=by
 obtain⟨ps,h1,h2,h3⟩:=x
 refine qU hc fun tA pos e1 e2=> ?_;clear hc
 rw[h1] at e1;cases e1
 refine oN (h3 pos _ e2) fun c' o vs t dK ho _=> ?_
 cases dK
 exact⟨o,ho⟩
theorem KP.refl{C:Cx}(s:Shared):KP C s s:=⟨s.heap,s.toks,rfl,Nat.le_refl _,fun _ _ _ e=>e,.keeps fun _ _ e=>e⟩
theorem KP.of{C:Cx}{s:Shared}{h':Heap}{tk:Nat}(ht:s.toks<=tk)(k:∀b o,s.heap.get? b=some o->h'.get? b=some o):KP C s { s with heap:=h',toks:=tk }:=
 ⟨h',tk,rfl,ht,fun b o _ e=>k b o e,.keeps k⟩
theorem KP.tok{C:Cx}{s:Shared}{tk:Nat}(ht:s.toks<=tk):KP C s { s with toks:=tk }:=KP.of ht fun _ _ e=>e
theorem KP.push{C:Cx}{s:Shared}{o:Obj}{tk:Nat}(ht:s.toks<=tk):KP C s { s with heap:=s.heap.push o,toks:=tk }:=KP.of ht fun _ _ e=>wW _ e
theorem KP.heap{C:Cx}{s s':Shared}(x:KP C s s'){b:Addr}{o:Obj}(hb:b≠C.P)(e:s.heap.get? b=some o):s'.heap.get? b=some o:=by
 obtain⟨h1,t1,rfl,l1,k1,b1⟩:=x
 exact k1 b o hb e
theorem KP.tabTo{C:Cx}{s s':Shared}(x:KP C s s'):qX C s.heap s'.heap:=by
 obtain⟨h1,t1,rfl,l1,k1,b1⟩:=x
 exact b1
theorem KP.tab{C:Cx}{s s':Shared}(x:KP C s s')(h:jl C s.heap):jl C s'.heap:=(x.tabTo h).1
theorem KP.toks{C:Cx}{s s':Shared}(x:KP C s s'):s.toks<=s'.toks:=by
 obtain⟨h1,t1,rfl,l1,k1,b1⟩:=x
 exact l1
theorem KP.some{C:Cx}{s s':Shared}(x:KP C s s')(t:jl C s.heap){a:Addr}(h:∃o,s.heap.get? a=some o):∃o,s'.heap.get? a=some o:=by
 by_cases hb:a=C.P
 ·subst hb
  obtain⟨ps,h1,_⟩:=x.tab t
  exact⟨_,h1⟩
 ·obtain⟨o,e⟩:=h
  exact⟨o,x.heap hb e⟩
theorem none_of{h:Heap}{c:Addr}(x:¬∃o,h.get? c=some o):h.get? c=none:=by
 generalize e:h.get? c=x0;induction x0 using cO with
 |none=>rfl
 |some o=>exact absurd ⟨o,e⟩ x
theorem KP.trans{C:Cx}{s s' gS:Shared}(x:KP C s s')(y:KP C s' gS):KP C s gS:=by
 have x':=x
 obtain⟨h1,t1,rfl,l1,k1,b1⟩:=x
 obtain⟨h2,t2,rfl,l2,k2,b2⟩:=y
 refine⟨h2,t2,rfl,xJ l1 l2,fun b o hb e=>k2 b o hb (k1 b o hb e),fun z=>⟨(b2 (b1 z).1).1,fun c hc=> ?_⟩⟩
 rcases (b2 (b1 z).1).2 c hc with h|h
 ·exact(b1 z).2 c h
 ·refine .inr (none_of fun hs=> ?_)
  obtain⟨o,ho⟩:=x'.some z hs
  rw[h] at ho;exact zn ho
theorem Gr.kp{C:Cx}(Bs:Base C){s s':Shared}(g:Gr C s)(x:KP C s s'):Gr C s':=
 ⟨fun b o e=>x.heap (fun hb=>by rw[hb,Bs.hP] at e;exact zn e) (g.keep b o e),x.tab g.tab,fun e=>Nat.lt_of_lt_of_le (g.toks e) x.toks⟩
theorem Gr.ne{C:Cx}{s:Shared}(g:Gr C s){a:Addr}{o:Obj}(e:s.heap.get? a=some o)(hc:o.cls≠.none):a≠C.P:=by
 intro h;subst h
 obtain⟨ps,h1,_⟩:=g.tab
 rw[h1] at e;replace e:=j6 e;subst e;exact hc rfl
theorem RD.kp{C:Cx}{s s':Shared}{Y:List Addr}{v:Value}{d:D}(x:KP C s s')(hP:C.P∈Y)(r:RD C s.heap Y v d):RD C s'.heap Y v d:=
 R.mono (fun a o e=>by
  obtain⟨e,n⟩:=jM e
  exact jX (x.heap (fun h=>n (h▸hP)) e) n) r
theorem q5.kp{C:Cx}{s s':Shared}{Y:List Addr}{v:List Value}{d:List D}(x:KP C s s')(hP:C.P∈Y)(r:q5 C s.heap Y v d):q5 C s'.heap Y v d:=
 Rs.mono (fun a o e=>by
  obtain⟨e,n⟩:=jM e
  exact jX (x.heap (fun h=>n (h▸hP)) e) n) r
def jt(env:Env)(h:Heap)(x:Str)(v:Value):Prop:=
 (env.kindOf x=some .local/\∃m,h.Ns env.locals m/\m x=some v)\/((env.kindOf x=some .cell\/env.kindOf x=some .free)/\∃c,env.cells.lookup x=some c/\h.IsCell c (some v))
theorem jg{C:Cx}{h:Heap}(t:jl C h){a:Addr}{m:Str->Option Value}(n:h.Ns a m):a≠C.P:=by
 intro e;subst e
 obtain⟨ps,h1,_⟩:=t
 refine jj n fun o es ep ho hd _=> ?_;clear n
 rw[h1] at ho;replace ho:=j6 ho;subst ho;cases hd
theorem qN{C:Cx}{h:Heap}(t:jl C h){a:Addr}{v:Option Value}(n:h.IsCell a v):a≠C.P:=by
 intro e;subst e
 obtain⟨ps,h1,_⟩:=t
 refine jH n fun o ho hd=> ?_;clear n
 rw[h1] at ho;replace ho:=j6 ho;subst ho;cases hd
theorem jt.kp{C:Cx}{s s':Shared}{env:Env}{x:Str}{v:Value}(t:jl C s.heap)(k:KP C s s')(a:jt env s.heap x v):jt env s'.heap x v:=by
 rcases a with ⟨hk,m,hn,hm⟩|⟨hk,c,hc,hv⟩
 ·exact .inl ⟨hk,m,hn.at fun o e=>k.heap (jg t hn) e,hm⟩
 ·refine jH (id hv) fun o ho hd=> ?_
  exact .inr ⟨hk,c,hc,o,k.heap (qN t hv) ho,hd⟩
structure rR(C:Cx)(k:Bool)(env:Env):Prop where
 kind:env.scope.kind= .function
 glob:env.globals=mainGlobals
 bi:env.builtins=builtinsNs
 cells:∀n,env.kindOf n=some .cell\/env.kindOf n=some .free->(env.cells.lookup n).isSome=true
 lam:k=true->env.code= .ref C.c/\env.qual++("<lambda>":Str)=C.lq
def pC(C:Cx)(Y:List Addr)(env:Env)(h:Heap)(l:Loc):Prop:=∀x d,l x=some d->∃v,jt env h x v/\RD C h Y v d
theorem pC.kp{C:Cx}{s s':Shared}{Y:List Addr}{env:Env}{l:Loc}(t:jl C s.heap)(k:KP C s s')(hP:C.P∈Y)(e:pC C Y env s.heap l):pC C Y env s'.heap l:=fun x d hx=>by
 refine jH (e x d hx) fun v a r=> ?_
 exact⟨v,a.kp t k,r.kp k hP⟩
structure yW(n:Nat)(A:Around):Prop where
 handled:A.handled=none
 depth:A.depth+3 * n<900
 units:A.units+40 * n<9000
theorem yW.mono{n m:Nat}{A:Around}(h:yW n A)(hm:m<=n):yW m A:=⟨h.handled,by have:=h.depth;lia,by have:=h.units;lia⟩
structure dP(env:Env)(h:Heap):Prop where
 ns:∃m,h.Ns env.locals m
 cl:∀p∈env.cells,∃v,h.IsCell p.2 v
 apart:env.cells.Pairwise fun x y=>x.2≠y.2
theorem dP.kp{C:Cx}{s s':Shared}{env:Env}(t:jl C s.heap)(k:KP C s s')(f:dP env s.heap):dP env s'.heap:=by
 obtain⟨⟨m,hn⟩,hc,ha⟩:=f
 refine⟨⟨m,hn.at fun o e=>k.heap (jg t hn) e⟩,fun p hp=> ?_,ha⟩
 obtain⟨v,hv⟩:=hc p hp
 refine jH (id hv) fun o ho hd=> ?_
 exact⟨v,o,k.heap (qN t hv) ho,hd⟩
noncomputable abbrev NE:Value->Shared->Prop:=fun _ _=>False
def SE(C:Cx)(n:Nat)(r:Ev):Prop:=∀(k:Bool) (A:Around) (env:Env) (Y:List Addr) (l:Loc) (e:Expr) (d:D) (s:Shared) (Q:q4),
 yW n A->rR C k env->Gr C s->C.P∈Y->(∀a∈Y,C.g0.get? a=none)->(∀a∈Y,∃o,s.heap.get? a=some o)->dP env s.heap->(∀p∈env.cells,p.2∈Y)->pC C Y env s.heap l->r.E k env.scope l e=some d->
 (∀v s',KP C s s'->RD C s'.heap Y v d->Q v s')->wpAny C.M A (eval e env) Q NE s
theorem yE{C:Cx}{α:Type}{A:Around}{t:Sem α}{Q:α->Shared->Prop}{s:Shared}(h:wpAny C.M A t (fun a s'=>s.toks<=s'.toks->Q a s') NE s):wpAny C.M A t Q NE s:=
 wpAny_with_toks nL (wpAny_mono h (fun _ _ x=>x) fun _ _ x=>x.elim)
structure Pre(C:Cx)(n:Nat)(k:Bool)(A:Around)(env:Env)(Y:List Addr)(l:Loc)(s:Shared):Prop where
 bs:Base C
 a:yW n A
 eo:rR C k env
 gr:Gr C s
 hP:C.P∈Y
 hY:∀a∈Y,C.g0.get? a=none
 hYs:∀a∈Y,∃o,s.heap.get? a=some o
 fm:dP env s.heap
 hc:∀p∈env.cells,p.2∈Y
 loc:pC C Y env s.heap l
theorem Pre.kp{C:Cx}{n:Nat}{k:Bool}{A:Around}{env:Env}{Y:List Addr}{l:Loc}{s s':Shared}(p:Pre C n k A env Y l s)(x:KP C s s'):Pre C n k A env Y l s':=
 ⟨p.bs,p.a,p.eo,p.gr.kp p.bs x,p.hP,p.hY,fun a ha=>x.some p.gr.tab (p.hYs a ha),p.fm.kp p.gr.tab x,p.hc,p.loc.kp p.gr.tab x p.hP⟩
theorem Pre.mono{C:Cx}{n m:Nat}{k:Bool}{A:Around}{env:Env}{Y:List Addr}{l:Loc}{s:Shared}(p:Pre C n k A env Y l s)(hm:m<=n):Pre C m k A env Y l s:=
 ⟨p.bs,p.a.mono hm,p.eo,p.gr,p.hP,p.hY,p.hYs,p.fm,p.hc,p.loc⟩
theorem SE.at{C:Cx}{n:Nat}{r:Ev}(S:SE C n r){k:Bool}{A:Around}{env:Env}{Y:List Addr}{l:Loc}{e:Expr}{d:D}{s:Shared}{Q:q4}(p:Pre C n k A env Y l s)(h:r.E k env.scope l e=some d)
  (hQ:∀v s',KP C s s'->Pre C n k A env Y l s'->RD C s'.heap Y v d->Q v s'):wpAny C.M A (eval e env) Q NE s:=
 S k A env Y l e d s Q p.a p.eo p.gr p.hP p.hY p.hYs p.fm p.hc p.loc h fun v s' x r=>hQ v s' x (p.kp x) r
theorem Pre.lt{C:Cx}{n:Nat}{k:Bool}{A:Around}{env:Env}{Y:List Addr}{l:Loc}{s:Shared}(p:Pre C n k A env Y l s):∀a∈Y,a<s.heap.objs.size:=fun a ha=>by
 obtain⟨o,e⟩:=p.hYs a ha
 exact Heap.lt_size e
section
variable{C:Cx}{n:Nat}{r:Ev}{k:Bool}{A:Around}{env:Env}{Y:List Addr}{l:Loc}{s:Shared}{Q:q4}
abbrev Kq(C:Cx)(Y:List Addr)(d:D)(s:Shared)(Q:q4):Prop:=∀v s',KP C s s'->RD C s'.heap Y v d->Q v s'
theorem E_none{kd:Nat}{pos:Pos}(q:Kq C Y .none s Q):wpAny C.M A (eval (.Constant .none kd pos) env) Q NE s:=wpAny_pure (q _ _ (KP.refl s) .none)
theorem E_bool{b:Bool}{kd:Nat}{pos:Pos}(q:Kq C Y (.bool b) s Q):wpAny C.M A (eval (.Constant (.bool b) kd pos) env) Q NE s:=wpAny_pure (q _ _ (KP.refl s) (.bool b))
theorem rU{i:Int}{kd:Nat}{pos:Pos}(q:Kq C Y (.int i) s Q):wpAny C.M A (eval (.Constant (.int i) kd pos) env) Q NE s:=wpAny_Constant_int (q _ _ (KP.tok (Nat.le_succ _)) (.int i _))
theorem pX{x:Str}{kd:Nat}{pos:Pos}(q:Kq C Y (.str x) s Q):wpAny C.M A (eval (.Constant (.str x) kd pos) env) Q NE s:=by
 rw[eval_Constant]
 exact wpAny_mkText (q _ _ (KP.tok (Nat.le_succ _)) (.str x _))
theorem pW{B:Around}{x:Str}{pos:Pos}{v:Value}(p:Pre C n k A env Y l s)(a:jt env s.heap x v)(hd:(x==("__debug__":Str))=false)(hc:(x==("__classdict__":Str))=false)(q:Q v s):wpAny C.M B (eval (.Name x pos) env) Q NE s:=by
 refine wpAny_Name ?_ hd
 rcases a with ⟨hk,m,hn,hm⟩|⟨hk,c,hc',hv⟩
 ·exact wpAny_loadName_local p.eo.kind hk hn hm q
 ·rcases hk with hk|hk
  ·exact wpAny_loadName_cell p.eo.kind hk hc' hv q
  ·exact wpAny_loadName_free p.eo.kind hk hc' hv q hc
theorem Gr.globals(bs:Base C)(g:Gr C s):s.heap.Ns mainGlobals C.mg:=bs.g.keeps g.keep
theorem Gr.builtins(bs:Base C)(g:Gr C s):s.heap.Ns builtinsNs C.mb:=bs.b.keeps g.keep
theorem ql{B:Around}{x:Str}{pos:Pos}{v:Value}(p:Pre C n k A env Y l s)(hk:env.kindOf x=some .globalImplicit)(hv:C.mg x=some v)(hd:(x==("__debug__":Str))=false)(q:Q v s):wpAny C.M B (eval (.Name x pos) env) Q NE s:=by
 refine Name_function_global p.eo.kind hk (loadGlobal_global (mg:=C.mg) ?_ hv q) hd
 rw[p.eo.glob];exact p.gr.globals p.bs
theorem xZ{B:Around}{x:Str}{pos:Pos}{v:Value}(p:Pre C n k A env Y l s)(hk:env.kindOf x=some .globalImplicit)(hm:x∈ya)(hv:bootBuiltins x=some v)(hd:(x==("__debug__":Str))=false)(q:Q v s):wpAny C.M B (eval (.Name x pos) env) Q NE s:=by
 refine Name_function_global p.eo.kind hk (loadGlobal_builtin (mg:=C.mg) (mb:=C.mb) ?_ (p.bs.bi x hm).1 ?_ ((p.bs.bi x hm).2.trans hv) q) hd
 ·rw[p.eo.glob];exact p.gr.globals p.bs
 ·rw[p.eo.bi];exact p.gr.builtins p.bs
theorem jE5(g:Gr C s)(hY:∀a∈Y,C.g0.get? a=none){v:Value}{d:D}(x:R C.prog C.w C.g0.get? v d):RD C s.heap Y v d:=
 R.mono (fun a o e=>jX (g.keep a o e) fun h=>by rw[hY a h] at e;exact zn e) x
theorem jG3{a b:Expr}{op:Operator}{pos:Pos}(h:wpAny C.M A (eval a env) (fun x s₁=>wpAny C.M A (eval b env) (fun y s₂=>wpAny C.M A (binaryOp op x y) Q NE s₂) NE s₁) NE s):wpAny C.M A (eval (.BinOp a op b pos) env) Q NE s:=wpAny_BinOp h
variable{prog:Program}{w:World}{H:HV}{v:Value}
theorem R.int_inv{i:Int}(h:R prog w H v (.int i)):∃t,v= .int i t:=h.inv
theorem R.str_inv{x:Str}(h:R prog w H v (.str x)):∃t,v= .str x t:=h.inv
theorem R.bool_inv{b:Bool}(h:R prog w H v (.bool b)):v= .bool b:=h.inv
theorem R.none_inv(h:R prog w H v .none):v= .none:=h.inv
theorem R.list_inv{ds:List D}(h:R prog w H v (.list ds)):∃a vs n,v= .ref a/\H a=some (jc vs n)/\Rs prog w H vs ds:=h.inv
theorem R.tup_inv{ds:List D}(h:R prog w H v (.tup ds)):∃a vs n,v= .ref a/\H a=some (xt vs n)/\Rs prog w H vs ds:=h.inv
theorem R.rng_inv{a b:Int}(h:R prog w H v (.rng a b)):∃r t u z,v= .ref r/\H r=some { cls:= .type "range",data:= .fields #[.int a t,.int b u,.int 1 z] }:=h.inv
theorem xI{o:Obj}{tk:Nat}(hY:∀a∈Y,a<s.heap.objs.size)(hf:o.isFreed=false):view ({ s with heap:=s.heap.push o,toks:=tk }:Shared).heap Y s.heap.objs.size=some o:=
 jX (Heap.get?_push_size _ hf) fun h=>Nat.lt_irrefl _ (hY _ h)
theorem sz{m:Nat}(h:m<=lim):m<=sizeLine:=by
 have:sizeLine=16777216:=by decide
 have:lim=1000000:=by decide
 exact j8
theorem jBo{a:Int}(h:small a=true):Builtin.Int.intBits a<=64:=by
 exact intBits_le_64 (Int.lt_trans kD (eG h).1) (Int.lt_trans (eG h).2 kD)
theorem mulOk{x:Str}{m:Int}(h:x.length<=100/\0<=m/\m<=100):MulOk x m:=by
 refine yD h fun h1 h2 h3=> ?_;clear h
 refine⟨by simp;lia,?_,?_⟩
 ·intro h4 _ h5
  have h7:(x.length:Int) * m<=100 * 100:=Int.mul_le_mul (Int.ofNat_le.mpr h1) h3 h2 kD
  have h6:(x.length:Int)<=(2 ^ 63 - 1) / m:=(Int.le_ediv_iff_mul_le (by lia)).mpr (by lia)
  lia
 ·intro _ _
  have h7:x.length * m.toNat<=100 * 100:=Nat.mul_le_mul h1 (Int.toNat_le.mpr h3)
  have:sizeLine=16777216:=by decide
  unfold Builtin.Str.tooLong
  simp;exact j8
theorem jHz{op:Operator}{a b i:Int}{t u:Tok}(h:intOp op a b=some i)(q:Kq C Y (.int i) s Q):wpAny C.M A (binaryOp op (.int a t) (.int b u)) Q NE s:=by
 have q':=fun tk=>q (.int i tk) _ (KP.tok (Nat.le_succ _)) (.int _ _)
 induction op using cP with
 |Add=>(replace h:=j6 h;subst h);exact P.add_int (q' _)
 |Sub=>(replace h:=j6 h;subst h);exact P.sub_int (q' _)
 |Mult=>
  have h:(if (small a||small b)=true then some (a * b) else none)=some i:=h
  revert h;refine yU (fun hs h=> ?_) fun _ h=> ?_
  ·replace h:=j6 h;subst h
   refine P.mul_int (q' _) ?_
   rcases Bool.or_eq_true_iff.mp hs with hs|hs
   ·exact .of_left (jBo hs)
   ·exact .of_right (jBo hs)
  ·exact nn h
 |FloorDiv=>
  have h:(if b≠0/\b.natAbs<1073741824 then some (a.fdiv b) else none)=some i:=h
  revert h;refine yU (fun hs h=> ?_) fun _ h=> ?_
  ·replace h:=j6 h;subst h
   exact floordiv_int hs.1 (q' _) (.inl (PyProof.noPylong_small hs.2))
  ·exact nn h
 |Mod=>
  have h:(if b≠0 then some (a.fmod b) else none)=some i:=h
  revert h;refine yU (fun hs h=> ?_) fun _ h=> ?_
  ·replace h:=j6 h;subst h
   exact mod_int' hs (q' _)
  ·exact nn h
 |Pow=>
  have h:(if (a=2\/a=8)/\0<=b/\b<=64 then some (a ^ b.toNat) else none)=some i:=h
  revert h;refine yU (fun hs h=> ?_) fun _ h=> ?_
  ·replace h:=j6 h;subst h
   refine pow_int_small hs.2.1 (by lia) ?_ (q' _)
   rcases hs.1 with rfl|rfl <;> decide
  ·exact nn h
 |BitAnd=>(replace h:=j6 h;subst h);exact and_int (q' _)
 |BitOr=>(replace h:=j6 h;subst h);exact or_int (q' _)
 |_=>exact nn h
theorem wB{op:Operator}{x y:Value}{a b d:D}(hP:C.P∈Y)(hY:∀a∈Y,a<s.heap.objs.size)(h:wy op a b=some d)(hx:RD C s.heap Y x a)(hy:RD C s.heap Y y b)(q:Kq C Y d s Q):wpAny C.M A (binaryOp op x y) Q NE s:=by
 induction a using cD with
 |int a=>
  induction b using cD with
  |int b=>
   refine mE h ?_;rintro i hi rfl
   obtain⟨t,rfl⟩:=hx.int_inv
   obtain⟨u,rfl⟩:=hy.int_inv
   exact jHz hi q
  |_=>exact nn h
 |str a=>
  induction b using cD with
  |str b=>
   induction op using cP with
   |Add=>
    have h:(if a.length+b.length<=lim then some (D.str (a++b)) else none)=some d:=h
    revert h;refine yU (fun hs h=> ?_) fun _ h=> ?_
    ·replace h:=j6 h;subst h;obtain⟨t,rfl⟩:=hx.str_inv;obtain⟨u,rfl⟩:=hy.str_inv
     exact yE (SB.add (fun t' k' ht=>q _ _ (KP.tok ht) (.str _ _)) (sz hs))
    ·exact nn h
   |_=>exact nn h
  |int b=>
   induction op using cP with
   |Mult=>
    have h:(if a.length<=100/\0<=b/\b<=100 then some (D.str (Txt.mul a b)) else none)=some d:=h
    revert h;refine yU (fun hs h=> ?_) fun _ h=> ?_
    ·replace h:=j6 h;subst h;obtain⟨t,rfl⟩:=hx.str_inv;obtain⟨u,rfl⟩:=hy.int_inv
     exact yE (SB.mul (mulOk hs) (fun t' k' ht=>q _ _ (KP.tok ht) (.str _ _)))
    ·exact nn h
   |_=>exact nn h
  |_=>exact nn h
 |list a=>
  induction b using cD with
  |list b=>
   induction op using cP with
   |Add=>
    have h:(if a.length+b.length<=lim then some (D.list (a++b)) else none)=some d:=h
    revert h;refine yU (fun hs h=> ?_) fun _ h=> ?_
    ·replace h:=j6 h;subst h
     refine jj hx.list_inv ?_;rintro a1 vs n1 rfl h1 r1
     refine jj hy.list_inv ?_;rintro a2 ws n2 rfl h2 r2
     have l1:=r1.length
     have l2:=r2.length
     refine P.add_list (jM h1).1 (jM h2).1 (q _ _ (KP.push nL) ?_) (by simp only[List.size_toArray];exact sz (by lia))
     refine .list (vs:=vs++ws) (n:=0) ?_ (q5.kp (KP.push nL) hP (r1.append r2))
     rw[List.append_toArray]
     exact xI (tk:=s.toks) (o:=jc (vs++ws) 0) hY rfl
    ·exact nn h
   |_=>exact nn h
  |_=>exact nn h
 |_=>exact nn h
open PySem.SeqAt
theorem gP{a:D}{i:Int}(h:a.asInt? =some i):a= .int i:=by cases a <;> first|exact nn h|exact congrArg _ (j6 h)
theorem yo{a:D}{i:Str}(h:a.asStr? =some i):a= .str i:=by cases a <;> first|exact nn h|exact congrArg _ (j6 h)
theorem wC{a:D}{i:List D}(h:a.asList? =some i):a= .list i:=by cases a <;> first|exact nn h|exact congrArg _ (j6 h)
theorem yv{a d:D}{f:Int->Option D}(h:a.asInt?.bind f=some d):∃i,a= .int i/\f i=some d:=by
 refine bE h fun i h1 h2=> ?_
 exact⟨i,gP h1,h2⟩
theorem asIntB{α:Type}{a:D}{d:α}{f:Int->Option α}(h:a.asInt?.bind f=some d):∃i,a= .int i/\f i=some d:=by
 refine bE h fun i h1 h2=> ?_
 exact⟨i,gP h1,h2⟩
theorem asStrB{α:Type}{a:D}{d:α}{f:Str->Option α}(h:a.asStr?.bind f=some d):∃i,a= .str i/\f i=some d:=by
 refine bE h fun i h1 h2=> ?_
 exact⟨i,yo h1,h2⟩
theorem kB{a d:D}{f:Int->D}(h:a.asInt?.map f=some d):∃i,a= .int i/\f i=d:=by
 refine mE h fun i h1 h2=> ?_
 exact⟨i,gP h1,h2⟩
theorem qT{a d:D}{f:Str->Option D}(h:a.asStr?.bind f=some d):∃i,a= .str i/\f i=some d:=by
 refine bE h fun i h1 h2=> ?_
 exact⟨i,yo h1,h2⟩
theorem qd{a d:D}{f:List D->Option D}(h:a.asList?.bind f=some d):∃i,a= .list i/\f i=some d:=by
 refine bE h fun i h1 h2=> ?_
 exact⟨i,wC h1,h2⟩
theorem jGu:∀{l:List D} {a:D},a∈l->a.dep<=D.deps l
 |b::r,a,h=>by
  simp only[D.deps]
  rcases j0.mp h with rfl|h
  ·exact Nat.le_max_left _ _
  ·exact xJ (jGu h) (Nat.le_max_right _ _)
theorem qv{a b:D}{r q:List D}(h:D.likes (a::r) (b::q)=true):D.like a b=true/\D.likes r q=true:=Bool.and_eq_true_iff.mp h
theorem yJ{a:D}{r:List D}(h:D.deps (a::r)<=n):a.dep<=n/\D.deps r<=n:=Nat.max_le.mp h
theorem yu{P:D->D->Prop}{a b:D}(h:D.like a b=true)(h1:∀i j,P (.int i) (.int j))(h2:∀i j,P (.str i) (.str j))(h3:∀i j,D.likes i j=true->P (.list i) (.list j))(h4:∀i j,D.likes i j=true->P (.tup i) (.tup j)):P a b:=by
 induction a using cD with
 |int i=>induction b using cD with
  |int j=>exact h1 _ _
  |_=>exact ff h
 |str i=>induction b using cD with
  |str j=>exact h2 _ _
  |_=>exact ff h
 |list i=>induction b using cD with
  |list j=>exact h3 _ _ h
  |_=>exact ff h
 |tup i=>induction b using cD with
  |tup j=>exact h4 _ _ h
  |_=>exact ff h
 |_=>exact ff h
theorem jGj{vs ws:List Value}{m:Nat}(h:Data.seq vs.toArray n= .seq ws.toArray m):vs=ws:=by
 injection h with h
 exact congrArg Array.toList h
theorem R.two_list{i j:List D}(h:R prog w H v (.list i))(g:R prog w H v (.list j)):∃vs,Rs prog w H vs i/\Rs prog w H vs j:=by
 refine jj h.list_inv fun a1 vs n1 e1 h1 r1=> ?_
 refine jj g.list_inv fun a2 ws n2 e2 h2 r2=> ?_
 cases Value.ref.inj (e1.symm.trans e2)
 have e:vs=ws:=jGj (congrArg Obj.data (j6 (h1.symm.trans h2)))
 exact⟨vs,r1,e▸r2⟩
theorem R.two_tup{i j:List D}(h:R prog w H v (.tup i))(g:R prog w H v (.tup j)):∃vs,Rs prog w H vs i/\Rs prog w H vs j:=by
 refine jj h.tup_inv fun a1 vs n1 e1 h1 r1=> ?_
 refine jj g.tup_inv fun a2 ws n2 e2 h2 r2=> ?_
 cases Value.ref.inj (e1.symm.trans e2)
 have e:vs=ws:=jGj (congrArg Obj.data (j6 (h1.symm.trans h2)))
 exact⟨vs,r1,e▸r2⟩
theorem R.two_int{i j:Int}(h:R prog w H v (.int i))(g:R prog w H v (.int j)):i=j:=by
 obtain⟨t,e1⟩:=h.int_inv
 obtain⟨u,e2⟩:=g.int_inv
 exact(Value.int.inj (e1.symm.trans e2)).1
theorem R.two_str{i j:Str}(h:R prog w H v (.str i))(g:R prog w H v (.str j)):i=j:=by
 obtain⟨t,e1⟩:=h.str_inv
 obtain⟨u,e2⟩:=g.str_inv
 exact(Value.str.inj (e1.symm.trans e2)).1
theorem jBt(n:Nat)(IH:∀(a b:D) (v:Value),a.dep<=n->R prog w H v a->R prog w H v b->D.like a b=true->D.beq a b=true){a:List D}{v:List Value}(h:Rs prog w H v a):
  ∀(b:List D),D.deps a<=n->Rs prog w H v b->D.likes a b=true->D.beqs a b=true:=
 h.ind (P:=fun v a=>∀(b:List D),D.deps a<=n->Rs prog w H v b->D.likes a b=true->D.beqs a b=true) (fun b _ g _=>by
  induction b using cL with
  |nil=>rfl
  |cons _ _=>refine qU g.un fun _ _ e _=> ?_;cases e) fun v a vs as h _ ih b hn g k=>by
  induction b using cL with
  |nil=>cases g.un0
  |cons b bs=>
   refine zB g.un fun x xs e g gr=> ?_
   obtain⟨rfl,rfl⟩:=List.cons.inj e
   exact Bool.and_eq_true_iff.mpr ⟨IH _ _ _ (yJ hn).1 h g (qv k).1,ih _ (yJ hn).2 gr (qv k).2⟩
theorem jF9(n:Nat):∀(a b:D) (v:Value),a.dep=n->R prog w H v a->R prog w H v b->D.like a b=true->D.beq a b=true:=
 Nat.strongRecOn n fun n IH a b v hn h g k=>
  yu (P:=fun a b=>a.dep=n->R prog w H v a->R prog w H v b->D.beq a b=true) k (fun i j _ h g=>decide_eq_true (h.two_int g)) (fun i j _ h g=>beq_iff_eq.mpr (h.two_str g))
   (fun i j k hn h g=>let ⟨_,r1,r2⟩:=h.two_list g;jBt (D.deps i) (fun a b v ha h g k=>IH a.dep (Nat.lt_of_lt_of_eq (Nat.lt_succ_of_le ha) hn) a b v rfl h g k) r1 _ nL r2 k)
   (fun i j k hn h g=>let ⟨_,r1,r2⟩:=h.two_tup g;jBt (D.deps i) (fun a b v ha h g k=>IH a.dep (Nat.lt_of_lt_of_eq (Nat.lt_succ_of_le ha) hn) a b v rfl h g k) r1 _ nL r2 k) hn h g
theorem jEj{a b:D}(h:R prog w H v a)(g:R prog w H v b)(k:D.like a b=true):D.beq a b=true:=jF9 _ a b v rfl h g k
noncomputable def rE(as bs:List D)(j:Nat):Bool:=match as[j]?,bs[j]? with
 |some a,some b=>D.beq a b
 |_,_=>true
theorem kc:∀(as bs:List D),as.length=bs.length->(List.range as.length).all (rE as bs)=D.beqs as bs
 |[],[],_=>rfl
 |a::as,b::bs,h=>by
  rw[List.length_cons,List.range_succ_eq_map,List.all_cons,List.all_map]
  rw[show (rE (a::as) (b::bs) ∘ Nat.succ)=rE as bs from rfl,kc as bs (Nat.succ.inj h)]
  rfl
theorem zO:∀(as bs:List D),((List.range (min as.length bs.length)).all (rE as bs)&&as.length==bs.length)=D.beqs as bs
 |[],[]=>rfl
 |[],b::bs=>by rw[List.length_nil,Nat.zero_min];rfl
 |a::as,[]=>by rw[List.length_nil,Nat.min_zero];rfl
 |a::as,b::bs=>by
  have:=zO as bs
  rw[List.length_cons,List.length_cons,Nat.succ_min_succ,List.range_succ_eq_map,List.all_cons,List.all_map]
  rw[show (rE (a::as) (b::bs) ∘ Nat.succ)=rE as bs from rfl]
  have e2:(as.length+1==bs.length+1)=(as.length==bs.length):=decide_eq_decide.mpr ⟨Nat.succ.inj,congrArg (·+1)⟩
  rw[e2,Bool.and_assoc,this]
  rfl
theorem gO:∀(as bs:List D),as.length≠bs.length->D.beqs as bs=false
 |[],[],h=>absurd rfl h
 |[],b::bs,_=>rfl
 |a::as,[],_=>rfl
 |a::as,b::bs,h=>(congrArg (D.beq a b&&·) (gO as bs fun e=>h (congrArg (·+1) e))).trans (Bool.and_false _)
theorem jY{a:Addr}{vs:List Value}(h:view s.heap Y a=some (jc vs n)):s.heap.IsList a vs.toArray:=⟨_,(jM h).1,rfl,n,rfl⟩
theorem jy{a:Addr}{vs:List Value}(h:view s.heap Y a=some (xt vs n)):s.heap.IsTuple a vs.toArray:=⟨_,(jM h).1,rfl,n,rfl⟩
theorem arD{u d:Nat}(h:u+d<9800):d<=9799 - u:=by omega
theorem arE{u d e:Nat}(h:d<=9799 - u)(k:u+e<9800):u+d<9800:=by omega
theorem gd(n:Nat)(IH:∀(a b:D) (x y:Value) (A:Around),a.dep<=n->D.like a b=true->R prog w (view s.heap Y) x a->R prog w (view s.heap Y) y b->A.units+a.dep<9800->EqAt A s x y (D.beq a b)):
  ∀(a b:List D) (x y:List Value) (A:Around),D.deps a<=n->D.likes a b=true->Rs prog w (view s.heap Y) x a->Rs prog w (view s.heap Y) y b->A.units+D.deps a<9800->
  ∀(j:Nat) (h1:j<x.length) (h2:j<y.length),EqAt A s x[j] y[j] (rE a b j):=by
 intro a b x y A hn k h
 refine h.ind (P:=fun x a=>∀(b:List D) (y:List Value),D.deps a<=n->D.likes a b=true->Rs prog w (view s.heap Y) y b->A.units+D.deps a<9800->∀(j:Nat) (h1:j<x.length) (h2:j<y.length),EqAt A s x[j] y[j] (rE a b j)) (fun _ _ _ _ _ _ j h1 _=>absurd h1 (Nat.not_lt_zero j)) (fun v d vs ds h _ ih b y hn k g hu j h1 h2=> ?_) b y hn k
 induction b using cL with
 |nil=>rw[g.un0] at h2;exact absurd h2 (Nat.not_lt_zero j)
 |cons b bs=>
  refine zB g.un ?_;rintro u us rfl g gr
  have lN:=yJ (n:=9799 - A.units) (arD hu)
  induction j using cN with
  |zero=>exact IH d _ _ _ A (yJ hn).1 (qv k).1 h g (arE lN.1 hu)
  |succ j=>exact ih _ _ (yJ hn).2 (qv k).2 gr (arE lN.2 hu) j (Nat.lt_of_succ_lt_succ h1) (Nat.lt_of_succ_lt_succ h2)
theorem jH6(IH:∀(a b:D) (x y:Value) (A:Around),a.dep<=n->D.like a b=true->R prog w (view s.heap Y) x a->R prog w (view s.heap Y) y b->A.units+a.dep<9800->EqAt A s x y (D.beq a b)){i j:List D}{x y:Value}(hn:D.deps i<=n)(k:D.likes i j=true)(h:R prog w (view s.heap Y) x (.list i))(g:R prog w (view s.heap Y) y (.list j))(hu:A.units+(D.deps i+1)<9800):EqAt A s x y (D.beqs i j):=by
 refine jj h.list_inv ?_;rintro a1 vs n1 rfl h1 r1
 refine jj g.list_inv ?_;rintro a2 ws n2 rfl h2 r2
 by_cases e:a1=a2
 ·subst e
  have:=jEj h g k
  rw[show D.beqs i j=true from this]
  exact EqAt.same _
 ·refine EqAt.of_refs e ?_
  have l1:=r1.length
  have l2:=r2.length
  have hc:cLine=9900:=rfl
  by_cases hl:i.length=j.length
  ·rw[<-kc i j hl,<-l1]
   have z:=RcAt.lists (e:=rE i j) (jY h1) (jY h2) (l1.trans (hl.trans l2.symm)) (Nat.lt_of_le_of_lt (Nat.le_add_right _ _) (Nat.lt_trans hu kD)) (A:=A) (fun k' h1' h2'=>by
    have:=gd n IH i j vs ws A.in1 hn k r1 r2 (by rw[Nat.add_comm (D.deps i) 1,<-Nat.add_assoc] at hu;exact hu) k' (by exact h1') (by exact h2')
    exact this)
   exact z
  ·rw[gO i j hl]
   exact RcAt.lists_lengths (jY h1) (jY h2) (bne_iff_ne.mpr fun e:vs.length=ws.length=>hl (l1.symm.trans (e.trans l2))) (Nat.lt_of_le_of_lt (Nat.le_add_right _ _) (Nat.lt_trans hu kD))
theorem jJr(IH:∀(a b:D) (x y:Value) (A:Around),a.dep<=n->D.like a b=true->R prog w (view s.heap Y) x a->R prog w (view s.heap Y) y b->A.units+a.dep<9800->EqAt A s x y (D.beq a b)){i j:List D}{x y:Value}(hn:D.deps i<=n)(k:D.likes i j=true)(h:R prog w (view s.heap Y) x (.tup i))(g:R prog w (view s.heap Y) y (.tup j))(hu:A.units+(D.deps i+1)<9800):EqAt A s x y (D.beqs i j):=by
 refine jj h.tup_inv ?_;rintro a1 vs n1 rfl h1 r1
 refine jj g.tup_inv ?_;rintro a2 ws n2 rfl h2 r2
 by_cases e:a1=a2
 ·subst e
  have:=jEj h g k
  rw[show D.beqs i j=true from this]
  exact EqAt.same _
 ·refine EqAt.of_refs e ?_
  have l1:=r1.length
  have l2:=r2.length
  have hc:cLine=9900:=rfl
  rw[<-zO i j,<-l1,<-l2]
  have z:=RcAt.tuples (e:=rE i j) (jy h1) (jy h2) (by lia) (A:=A) (fun k' h1' h2'=>by
   have:=gd n IH i j vs ws A.in1 hn k r1 r2 (by rw[Nat.add_comm (D.deps i) 1,<-Nat.add_assoc] at hu;exact hu) k' (by exact h1') (by exact h2')
   exact this)
  exact z
theorem str_beq{i j:Str}:decide (i=j)=D.beq (.str i) (.str j):=(Bool.beq_eq_decide_eq i j).symm
theorem eqAt_m(n:Nat):∀(a b:D) (x y:Value) (A:Around),a.dep=n->D.like a b=true->R prog w (view s.heap Y) x a->R prog w (view s.heap Y) y b->A.units+a.dep<9800->EqAt A s x y (D.beq a b):=
 Nat.strongRecOn n fun n IH a b x y A hn k h g hu=>by
  refine yu (P:=fun a b=>a.dep=n->R prog w (view s.heap Y) x a->R prog w (view s.heap Y) y b->A.units+a.dep<9800->EqAt A s x y (D.beq a b)) k (fun i j _ h g _=> ?_) (fun i j _ h g _=> ?_) (fun i j k hn h g hu=> ?_) (fun i j k hn h g hu=> ?_) hn h g hu
  ·obtain⟨t,rfl⟩:=h.int_inv
   obtain⟨u,rfl⟩:=g.int_inv
   intro prog w E Q q
   exact wpAny_eqBool_int q
  ·obtain⟨t,rfl⟩:=h.str_inv
   obtain⟨u,rfl⟩:=g.str_inv
   intro prog w E Q q
   refine wpAny_eqBool_str ?_
   rw[str_beq];exact q
  ·exact jH6 (fun a b x y A ha k h g hu=>IH a.dep (Nat.lt_of_lt_of_eq (Nat.lt_succ_of_le ha) hn) a b x y A rfl k h g hu) nL k h g hu
  ·exact jJr (fun a b x y A ha k h g hu=>IH a.dep (Nat.lt_of_lt_of_eq (Nat.lt_succ_of_le ha) hn) a b x y A rfl k h g hu) nL k h g hu
theorem oS(n:Nat):∀(a b:D) (x y:Value) (A:Around),a.dep<=n->D.like a b=true->R prog w (view s.heap Y) x a->R prog w (view s.heap Y) y b->A.units+a.dep<9800->EqAt A s x y (D.beq a b):=fun a b x y A _=>eqAt_m _ a b x y A rfl
theorem cQ{a b:D}{x y:Value}(k:D.like a b=true)(h:R prog w (view s.heap Y) x a)(g:R prog w (view s.heap Y) y b)(hu:A.units+a.dep<9800):EqAt A s x y (D.beq a b):=eqAt_m _ a b x y A rfl k h g hu
open AutoSeq1 (wpAny_loadPart')
variable{E:q4}
theorem jAw{α β:Type}{M:Model}(f:α->β->Sem (ForInStep β))(b:β)(Q:β->Shared->Prop):∀l:List α,(∀x∈l,∀R:ForInStep β->Shared->Prop,R (.yield b) s->wpAny M A (f x b) R E s)->Q b s->wpAny M A (forIn l b f) Q E s
 |[],_,q=>by rw[List.forIn_nil];exact wpAny_pure q
 |x::l,h,q=>by
  rw[List.forIn_cons]
  exact wpAny_bind (h x jk _ (jAw f b Q l (fun y hy=>h y (qO _ hy)) q))
theorem jHn{a b:Addr}{xs ys:List Value}{n2:Nat}(h1:s.heap.get? a=some (xt xs n))(h2:s.heap.get? b=some (xt ys n2))(hl:xs.length=ys.length)(hu:A.units<cLine)
  (he:∀p∈xs.zip ys,∀(E:q4) (Q:Bool->Shared->Prop),Q true s->wpAny (model prog w) A.in1 (eqBool p.1 p.2) Q E s) (q:Q (.bool false) s):wpAny (model prog w) A (compareOp .NotEq (.ref a) (.ref b)) Q E s:=by
 refine wpAny_richCompare_same_room (op:= .NotEq) (T:="tuple") ⟨_,h1,rfl⟩ ⟨_,h2,rfl⟩ PySem.F.slot_tuple_ne (wpAny_call_entry PySem.F.slot_tuple_ne ⟨_,h1,rfl⟩ PySem.F.entry_tuple_ne ?_ (PySem.F.args_tuple_ne_2 _ _)) hu
 obtain⟨hp,g,d,tk,os⟩:=s
 have f2:=AutoSeq1.sub_tuple_tuple
 simp only[xt] at h1 h2
 wp_walk using wpAny_loadPart' h1,wpAny_loadPart' h2,jAw _
 ·rintro ⟨x,y⟩ hm R hR
  refine wpAny_bind (he ⟨x,y⟩ (by exact hm) _ _ ?_)
  exact wpAny_pure hR
 ·wp_walk
  refine⟨_,rfl,?_,?_⟩
  ·intro x;cases x
  ·simpa [hl,Builtin.Tuple.tupleCompareSizes] using q
theorem eq_dict{K:Type}[DecidableEq K]{knd:KeyKind prog w K}{a b:Addr}{oa ob:Obj}{ks:List K}{vs us:List Value}(ha:a≠sysModules)(hb:b≠sysModules)(ga:s.heap.get? a=some oa)(gb:s.heap.get? b=some ob)
  (da:oa.IsDictOf knd (ks.zip vs)) (db:ob.IsDictOf knd (ks.zip us)) (wu:ks.length=vs.length) (hl2:ks.length=us.length) (hu:A.units<cLine) (he:∀p∈vs.zip us,EqAt A.in1 s p.1 p.2 true) {Q:Bool->Shared->Prop} (q:Q true s):wpAny (model prog w) A (eqBool (.ref a) (.ref b)) Q E s:=by
 unfold eqBool
 refine wpAny_holding ?_
 split
 ·exact wpAny_pure (M:=model prog w) (E:=E) q
 have kL:ks.Nodup:=by
  obtain⟨es,ep,_,_,_,_,hn⟩:=da
  rw[List.map_fst_zip (by lia)] at hn
  exact hn
 have hits:∀(ks:List K) (vs us:List Value) (kb:List (K×Value)),ks.length=vs.length->ks.length=us.length->ks.Nodup->(∀p∈ks.zip us,valueAt kb p.1=some p.2)->(∀p∈vs.zip us,EqAt A.in1 s p.1 p.2 true)->KeqHits A.in1 s kb (ks.zip vs) true:=by
  intro ks
  induction ks with
  |nil=>intro vs us kb _ _ _ _ _;exact .nil
  |cons k ks ih=>
   intro vs us kb h1 h2 hn hv he
   match vs,us,h1,h2 with
   |v::vs,u::us,h1,h2=>
    have:=ih vs us kb (by simpa using h1) (by simpa using h2) (y7.mp hn).2 (fun p hp=>hv p (qO _ hp)) fun p hp=>he p (qO _ hp)
    exact .hit (e:=true) (b:=true) (hv (k,u) jk) (he (v,u) jk) this
 have hval:∀(ks:List K) (us:List Value),ks.Nodup->∀p∈ks.zip us,valueAt (ks.zip us) p.1=some p.2:=by
  intro ks
  induction ks with
  |nil=>intro us _ p hp;cases hp
  |cons k ks ih=>
   intro us hn p hp
   match us with
   |[]=>cases hp
   |u::us=>
    rcases j0.mp hp with rfl|hp
    ·simp[valueAt]
    ·have hk:p.1∈ks:=(List.of_mem_zip hp).1
     have jv:k≠p.1:=fun e=>(y7.mp hn).1 (e▸hk)
     have:=ih us (y7.mp hn).2 p hp
     unfold valueAt at this ⊢
     rw[List.zip_cons_cons,List.find?_cons_of_neg (by simpa using jv)]
     exact this
 have hlen:(ks.zip vs).length=(ks.zip us).length:=by simp[<-wu,<-hl2]
 refine wpAny_bind ?_
 refine keq_eq (by simpa using ha) (by simpa using hb) (Heap.dictOf_iff.mpr ⟨oa,ga,da⟩) (Heap.dictOf_iff.mpr ⟨ob,gb,db⟩) hu (fun _=>hits ks vs us _ wu hl2 kL (hval ks us kL) he) ?_
 rw[hlen]
 simp only[beq_self_eq_true,Bool.and_true]
 exact wpAny_truthy_bool q
theorem jEb:∀(a b:List D) (xs ys:List Value),D.likes a b=true->D.beqs a b=true->(∀v∈xs,∀u∈ys,∀d∈a,∀e∈b,D.like d e=true->R C.prog C.w H v d->R C.prog C.w H u e->EqAt A s v u (D.beq d e))->Rs C.prog C.w H xs a->Rs C.prog C.w H ys b->∀p∈xs.zip ys,EqAt A s p.1 p.2 true
 |a,b,[],ys,_,_,_,_,_=>fun p hp=>by cases hp
 |[],b,x::xs,ys,_,_,_,rs,_=>nomatch rs
 |a::as,b,x::xs,ys,hl,hb,h,r1,r2=>by
  induction ys using cL with
  |nil=>intro p hp;cases hp
  |cons y ys=>
   induction b using cL with
   |nil=>cases r2
   |cons b bs=>
    replace hl:=Bool.and_eq_true_iff.mp (show (D.like a b&&D.likes as bs)=true from hl)
    replace hb:=Bool.and_eq_true_iff.mp (show (D.beq a b&&D.beqs as bs)=true from hb)
    refine zB r1.un fun _ _ e1 q1 eU=> ?_
    refine zB r2.un fun _ _ e2 q2 eT=> ?_
    cases e1;cases e2
    intro p hp
    rcases j0.mp hp with rfl|hp
    ·have:=h x jk y jk a jk b jk hl.1 q1 q2
     rw[hb.1] at this;exact this
    ·exact jEb as bs xs ys hl.2 hb.2 (fun v hv u hu d hd e he=>h v (qO _ hv) u (qO _ hu) d (qO _ hd) e (qO _ he)) eU eT p hp
theorem R.dictS_inv0{l:xO}(h:R C.prog C.w H v (.dictS l)):∃(a:Addr) (o:Obj) (ks:List Str) (vs:List Value) (ds:List D),v= .ref a/\l=ks.zip ds/\H a=some o/\o.IsDictOf (strKind C.prog C.w) (ks.zip vs)/\ks.length=vs.length/\Rs C.prog C.w H vs ds/\a≠sysModules:=h.inv
theorem jIl{d b c:D}{a:xO}{r:List D}(h:tri3 d r=some (a,b,c)):d= .dictS a/\r=[b,c]:=by
 induction r using cL with
 |nil=>exact nn h
 |cons x r=>
  induction r using cL with
  |nil=>exact nn h
  |cons y r=>
   induction r using cL with
   |cons _ _=>exact nn h
   |nil=>
    induction d using cD with
    |dictS l=>cases h;exact⟨rfl,rfl⟩
    |_=>exact nn h
theorem jGc{x b c:D}{a:xO}(h:eN x=some (a,b,c)):x= .tup [.dictS a,b,c]:=by
 induction x using cD with
 |tup l=>
  induction l using cL with
  |nil=>exact nn h
  |cons d r=>obtain⟨rfl,rfl⟩:=jIl h;rfl
 |_=>exact nn h
def TrAt(prog:Program)(w:World)(A:Around)(s:Shared)(p:Value×Value):Prop:=∀(E:q4) (Q:Bool->Shared->Prop),Q true s->wpAny (model prog w) A (eqBool p.1 p.2) Q E s
theorem jG9{x y:Value}{l l':xO}(hu:A.units+40<9800)(hx:RD C s.heap Y x (.dictS l))(hy:RD C s.heap Y y (.dictS l'))(hk:l.map (·.1)=l'.map (·.1))(lV:D.likes (l.map (·.2)) (l'.map (·.2))=true)(d1:D.deps (l.map (·.2))<=20)(lu:D.beqs (l.map (·.2)) (l'.map (·.2))=true):TrAt C.prog C.w A.in1 s (x,y):=fun E Q hq=>by
 have hc:cLine=9900:=rfl
 obtain⟨a1,o1,ks,vs,ds,rfl,rfl,g1,i1,l1,z1,n1⟩:=R.dictS_inv0 hx
 obtain⟨a2,o2,ks2,vs2,ds2,rfl,rfl,g2,i2,l2,z2,n2⟩:=R.dictS_inv0 hy
 have e1:ks.length=ds.length:=l1.trans z1.length
 have e2:ks2.length=ds2.length:=l2.trans z2.length
 rw[List.map_fst_zip (by lia),List.map_fst_zip (by lia)] at hk
 subst hk
 rw[List.map_snd_zip (by lia),List.map_snd_zip (by lia)] at lV lu
 rw[List.map_snd_zip (by lia)] at d1
 refine eq_dict n1 n2 (jM g1).1 (jM g2).1 i1 i2 l1 l2 (by refine(?_:A.units+1<_);lia) (jEb ds ds2 vs vs2 lV lu (fun v _ u _ d hd e _ hl rv ru=>cQ hl rv ru ?_) z1 z2) hq
 have:=jGu hd
 refine(?_:A.units+1+1+_<_)
 lia
theorem jGd{x y:Value}{a b:D}(hu:A.units+40<9800)(hx:RD C s.heap Y x a)(hy:RD C s.heap Y y b)(hl:D.like a b=true)(hd:D.dep a<=20)(hb:D.beq a b=true):TrAt C.prog C.w A.in1 s (x,y):=fun E Q hq=>by
 have:=cQ (A:=A.in1) hl hx hy (by refine(?_:A.units+1+_<_);lia)
 rw[hb] at this
 exact this _ _ _ _ hq
theorem jFg{x y:Value}{a b:D}{c:Bool}(hu:A.units+40<9800)(h:uK a b=some c)(hx:RD C s.heap Y x a)(hy:RD C s.heap Y y b)(q:Q (.bool c) s):wpAny C.M A (compareOp .NotEq x y) Q NE s:=by
 refine bE h ?_;rintro ⟨da,b1,c1⟩ ha h1
 refine bE h1 ?_;rintro ⟨da',b1',c1'⟩ hb h2
 clear h h1
 obtain rfl:=jGc ha
 obtain rfl:=jGc hb
 clear ha hb
 revert h2;refine yU (fun hh h2=> ?_) fun _ h2=> ?_
 ·replace h2:=j6 h2;subst h2
  refine jj hx.tup_inv ?_;rintro ad ws m rfl ho rs
  refine jj hy.tup_inv ?_;rintro ad' ws' m' rfl ho' sZ
  refine yz rs.un3 ?_;rintro v0 v1 v2 rfl r0 r1 r2
  refine yz sZ.un3 ?_;rintro u0 u1 u2 rfl t0 t1 t2
  obtain⟨hk,lV,hlb,bH,d1,d2,d3,lu,hb2,hb3⟩:=hh
  have hc:cLine=9900:=rfl
  exact jHn (jM ho).1 (jM ho').1 rfl (by lia) (List.forall_mem_cons.mpr ⟨jG9 hu r0 t0 hk lV d1 lu,List.forall_mem_cons.mpr ⟨jGd hu r1 t1 hlb d2 hb2,List.forall_mem_cons.mpr ⟨jGd hu r2 t2 bH d3 hb3,fun _ h=>nomatch h⟩⟩⟩) q
 ·exact nn h2
theorem jI0{i j:List D}{x y:Value}(k0:D.like (.list i) (.list j)=true)(h:RD C s.heap Y x (.list i))(g:RD C s.heap Y y (.list j))(hu:A.units+(D.list i).dep<9800):RcNeAt A s x y (!D.beqs i j):=by
 refine jj h.list_inv ?_;rintro a1 vs n1 rfl h1 r1
 refine jj g.list_inv ?_;rintro a2 ws n2 rfl h2 r2
 have l1:=r1.length
 have l2:=r2.length
 have hc:cLine=9900:=rfl
 simp only[D.dep] at hu
 by_cases hl:i.length=j.length
 ·rw[<-kc i j hl,<-l1]
  have z:=RcNeAt.lists (e:=rE i j) (jY h1) (jY h2) (by simp;lia) (by lia) (A:=A) (fun k' h1' h2'=>by
   have:=gd _ (oS (D.deps i)) i j vs ws A.in1 nL k0 r1 r2 (by refine(?_:A.units+1+_<_);(refine Nat.lt_of_le_of_lt ?_ (by assumption);simp+arith)) k' (by exact h1') (by exact h2')
   exact this)
  exact z
 ·rw[gO i j hl]
  exact RcNeAt.lists_lengths (jY h1) (jY h2) (by simp;lia) (by lia)
theorem ne_tups{i j:List D}{x y:Value}(k0:D.like (.tup i) (.tup j)=true)(h:RD C s.heap Y x (.tup i))(g:RD C s.heap Y y (.tup j))(hu:A.units+(D.tup i).dep<9800):RcNeAt A s x y (!D.beqs i j):=by
 refine jj h.tup_inv ?_;rintro a1 vs n1 rfl h1 r1
 refine jj g.tup_inv ?_;rintro a2 ws n2 rfl h2 r2
 have l1:=r1.length
 have l2:=r2.length
 have hc:cLine=9900:=rfl
 simp only[D.dep] at hu
 rw[<-zO i j,<-l1,<-l2]
 have z:=RcNeAt.tuples (e:=rE i j) (jy h1) (jy h2) (by lia) (A:=A) (fun k' h1' h2'=>by
  have:=gd _ (oS (D.deps i)) i j vs ws A.in1 nL k0 r1 r2 (by refine(?_:A.units+1+_<_);(refine Nat.lt_of_le_of_lt ?_ (by assumption);simp+arith)) k' (by exact h1') (by exact h2')
  exact this)
 exact z
theorem jJq{i j:List D}{x y:Value}(k0:D.like (.list i) (.list j)=true)(h:RD C s.heap Y x (.list i))(g:RD C s.heap Y y (.list j))(hu:A.units+(D.list i).dep<9800)(q:Q (.bool (D.beqs i j)) s):wpAny C.M A (compareOp .Eq x y) Q NE s:=by
 refine jj h.list_inv ?_;rintro a1 vs n1 rfl h1 r1
 refine jj g.list_inv ?_;rintro a2 ws n2 rfl h2 r2
 have l1:=r1.length
 have l2:=r2.length
 have hc:cLine=9900:=rfl
 simp only[D.dep] at hu
 by_cases hl:i.length=j.length
 ·rw[<-kc i j hl,<-l1] at q
  exact eq_listAt (e:=rE i j) (jY h1) (jY h2) (by simp;lia) (by lia) (fun k' h1' h2'=>by
   have:=gd _ (oS (D.deps i)) i j vs ws A.in1 nL k0 r1 r2 (by refine(?_:A.units+1+_<_);(refine Nat.lt_of_le_of_lt ?_ (by assumption);simp+arith)) k' (by exact h1') (by exact h2')
   exact this) (by exact q)
 ·rw[gO i j hl] at q
  exact eq_list_lengthsAt (jY h1) (jY h2) (by simp;lia) (by lia) q
theorem eq_tups{i j:List D}{x y:Value}(k0:D.like (.tup i) (.tup j)=true)(h:RD C s.heap Y x (.tup i))(g:RD C s.heap Y y (.tup j))(hu:A.units+(D.tup i).dep<9800)(q:Q (.bool (D.beqs i j)) s):wpAny C.M A (compareOp .Eq x y) Q NE s:=by
 refine jj h.tup_inv ?_;rintro a1 vs n1 rfl h1 r1
 refine jj g.tup_inv ?_;rintro a2 ws n2 rfl h2 r2
 have l1:=r1.length
 have l2:=r2.length
 have hc:cLine=9900:=rfl
 simp only[D.dep] at hu
 rw[<-zO i j,<-l1,<-l2] at q
 exact eq_tupleAt (e:=rE i j) (jy h1) (jy h2) (by lia) (fun k' h1' h2'=>by
  have:=gd _ (oS (D.deps i)) i j vs ws A.in1 nL k0 r1 r2 (by refine(?_:A.units+1+_<_);(refine Nat.lt_of_le_of_lt ?_ (by assumption);simp+arith)) k' (by exact h1') (by exact h2')
  exact this) (by exact q)
theorem jEi(n:Nat)(IH:∀(a b c:D) (v:Value),a.dep<=n->D.like a c=true->D.like b c=true->R C.prog C.w H v a->R C.prog C.w H v b->D.beq a c=D.beq b c){a:List D}{v:List Value}(h:Rs C.prog C.w H v a):
  ∀(b c:List D),D.deps a<=n->D.likes a c=true->D.likes b c=true->Rs C.prog C.w H v b->D.beqs a c=D.beqs b c:=
 h.ind (P:=fun v a=>∀(b c:List D),D.deps a<=n->D.likes a c=true->D.likes b c=true->Rs C.prog C.w H v b->D.beqs a c=D.beqs b c) (fun b c _ _ _ g=>by
  induction b using cL with
  |nil=>rfl
  |cons _ _=>refine qU g.un fun _ _ e _=> ?_;cases e) fun v a vs as h _ ih b c hn k1 k2 g=>by
  induction b using cL with
  |nil=>cases g.un0
  |cons b bs=>
   refine zB g.un fun x xs e g gr=> ?_
   obtain⟨rfl,rfl⟩:=List.cons.inj e
   induction c using cL with
   |nil=>rfl
   |cons c cr=>
    refine(?_:(D.beq a c&&D.beqs as cr)=(D.beq b c&&D.beqs bs cr))
    rw[IH _ _ _ _ (yJ hn).1 (qv k1).1 (qv k2).1 h g,ih _ _ (yJ hn).2 (qv k1).2 (qv k2).2 gr]
theorem jIh(n:Nat):∀(a b c:D) (v:Value),a.dep=n->D.like a c=true->D.like b c=true->R C.prog C.w H v a->R C.prog C.w H v b->D.beq a c=D.beq b c:=
 Nat.strongRecOn n fun n IH a b c v hn k1 k2 h g=>
  yu (P:=fun a c=>a.dep=n->D.like b c=true->R C.prog C.w H v a->D.beq a c=D.beq b c) k1 (fun i j _ k2 h=>by
      induction b using cD with
      |int m=>rw[h.two_int g]
      |_=>exact ff k2) (fun i j _ k2 h=>by
      induction b using cD with
      |str m=>rw[h.two_str g]
      |_=>exact ff k2) (fun i j k1 hn k2 h=>by
      induction b using cD with
      |list m=>
       refine jH (h.two_list g) fun _ r1 r2=> ?_
       exact jEi (D.deps i) (fun a b c v ha k1 k2 h g=>IH a.dep (Nat.lt_of_lt_of_eq (Nat.lt_succ_of_le ha) hn) a b c v rfl k1 k2 h g) r1 _ _ nL k1 k2 r2
      |_=>exact ff k2) (fun i j k1 hn k2 h=>by
      induction b using cD with
      |tup m=>
       refine jH (h.two_tup g) fun _ r1 r2=> ?_
       exact jEi (D.deps i) (fun a b c v ha k1 k2 h g=>IH a.dep (Nat.lt_of_lt_of_eq (Nat.lt_succ_of_le ha) hn) a b c v rfl k1 k2 h g) r1 _ _ nL k1 k2 r2
      |_=>exact ff k2) hn k2 h
theorem any_map{vs:List Value}{ds:List D}{x:D}(e:Value->Bool):Rs C.prog C.w H vs ds->(∀v d,v∈vs->R C.prog C.w H v d->d∈ds->e v=D.beq d x)->vs.any e=ds.any (fun y=>D.beq y x):=by
 intro h
 induction vs generalizing ds with
 |nil=>intro _;cases h;rfl
 |cons v vs ih=>
  cases h with
  |cons h hr=>
   intro he
   rw[List.any_cons,List.any_cons,he v _ jk h jk,ih hr fun v d hv hr hd=>he v d (qO _ hv) hr (qO _ hd)]
theorem fj{vs:List Value}{ds:List D}{x:Value}{d:D}(hs:Rs C.prog C.w (view s.heap Y) vs ds)(hx:RD C s.heap Y x d)(hl:ds.all (fun y=>D.like y d&&decide (D.dep y<=20))=true)(hu:A.units+21<9800):
  ∃e:Value->Bool,(∀y,y∈vs->EqAt A s y x (e y))/\vs.any e=ds.any (fun y=>D.beq y d)/\(∀v d',v∈vs->d'∈ds->R C.prog C.w (view s.heap Y) v d'->e v=D.beq d' d):=by
 have key:∀v∈vs,∃b,EqAt A s v x b/\∀d',d'∈ds->R C.prog C.w (view s.heap Y) v d'->b=D.beq d' d:=by
  intro v hv
  obtain⟨j,hj⟩:=List.mem_iff_getElem?.mp hv
  refine jH (hs.getV hj) fun d1 lh hr1=> ?_
  have hm:d1∈ds:=List.mem_of_getElem? lh
  have wu:=List.all_eq_true.mp hl d1 hm
  simp only[Bool.and_eq_true,decide_eq_true_eq] at wu
  refine⟨D.beq d1 d,cQ wu.1 hr1 hx (by lia),fun d' yP px=> ?_⟩
  have hl2:=List.all_eq_true.mp hl d' yP
  simp only[Bool.and_eq_true,decide_eq_true_eq] at hl2
  exact jIh _ _ _ _ _ rfl wu.1 hl2.1 hr1 px
 classical
 have he:∀v d',v∈vs->d'∈ds->R C.prog C.w (view s.heap Y) v d'->(if h:v∈vs then (key v h).choose else false)=D.beq d' d:=fun v d' hv hd hr=>by
  simp only[hv,dif_pos]
  exact(key v hv).choose_spec.2 d' hd hr
 refine⟨fun v=>if h:v∈vs then (key v h).choose else false,fun y hy=> ?_,?_,he⟩
 ·simp only[hy,dif_pos]
  exact(key y hy).choose_spec.1
 ·exact any_map _ hs fun v d' hv hr hd=>he v d' hv hd hr
theorem uW{K:Type}[DecidableEq K]:∀{ks:List K} {vs:List Value} {ds:List D},Rs C.prog C.w H vs ds->∀k:K,
  (∀d,(ks.zip ds).lookup k=some d->∃v,valueAt (ks.zip vs) k=some v/\R C.prog C.w H v d)/\((ks.zip ds).lookup k=none->valueAt (ks.zip vs) k=none)
 |[],_,_,_,k=>by simp[valueAt]
 |q::ks,_,_,.nil,k=>by simp[valueAt]
 |q::ks,v::vs,d::ds,.cons h r,k=>by
  have ih:=uW (ks:=ks) r k
  by_cases e:q=k
  ·subst e;simp[valueAt];exact h
  ·have e':(k==q)=false:=by simpa using fun x=>e x.symm
   simp only[List.zip_cons_cons,List.lookup_cons,e',valueAt,List.find?_cons,e,decide_false]
   exact ih
theorem R.dictS_inv{l:xO}(h:R C.prog C.w H v (.dictS l)):∃(a:Addr) (o:Obj) (ks:List Str) (vs:List Value) (ds:List D),v= .ref a/\l=ks.zip ds/\H a=some o/\o.IsDictOf (strKind C.prog C.w) (ks.zip vs)/\ks.length=vs.length/\Rs C.prog C.w H vs ds/\a≠sysModules:=h.inv
theorem lookup_isSome{ks:List Str}{vs:List Value}{ds:List D}(hr:Rs C.prog C.w H vs ds)(kk:Str):(valueAt (ks.zip vs) kk).isSome=((ks.zip ds).lookup kk).isSome:=by
 have z:=uW (ks:=ks) hr kk
 generalize q:(ks.zip ds).lookup kk=x0;induction x0 using cO with
 |none=>rw[z.2 q];rfl
 |some d=>refine jH (z.1 d q) fun v e1 _=> ?_;rw[e1];rfl
theorem jJf{x y:Value}{a b:D}{c:Bool}(p:yW (n+1) A)(h:inD a b=some c)(hx:RD C s.heap Y x a)(hy:RD C s.heap Y y b)(q:∀tk,s.toks<=tk->Q (.bool c) { s with toks:=tk }):wpAny C.M A (compareOp .In x y) Q NE s:=by
 have hu:=p.units
 induction b using cD with
 |list l=>
  replace h:(if l.all (fun y=>D.like y a&&decide (D.dep y<=20)) then some (l.any (fun y=>D.beq y a)) else none)=some c:=h
  revert h;refine wL fun hl h=> ?_
  ·replace h:=j6 h;subst h
   refine jj hy.list_inv ?_;rintro a2 ws n2 rfl h2 r2
   refine xQ (fj (A:=A.in1) r2 hx hl (by refine(?_:A.units+1+21<9800);lia)) fun e he hq _=> ?_
   refine in_listAt e (jY h2) (fun y hy=>he y (by simpa using hy)) ?_
   have:=q s.toks nL
   rw[<-hq] at this
   simpa using this
 |dictS l=>
  refine mE (show (a.asStr?.map fun k=>(l.lookup k).isSome)=some c from h) fun u h1 hc=> ?_
  subst hc
  obtain rfl:=yo h1
  obtain⟨t,rfl⟩:=hx.str_inv
  obtain⟨a2,o,ks,vs,ds,rfl,rfl,h2,hd,hlen,hr,jv⟩:=R.dictS_inv hy
  have hD:s.heap.DictOf (strKind C.prog C.w) a2 (ks.zip vs):=Heap.dictOf_iff.mpr ⟨o,(jM h2).1,hd⟩
  refine wpAny_in_of (strKind_is _ _ u t) (by simpa using jv) hD.mapOf ?_
  rw[lookup_isSome hr]
  exact q _ (Nat.le_succ _)
 |_=>exact nn h
theorem jEy{x y:Value}{a b:D}{c:Bool}(p:yW (n+1) A)(h:inD a b=some c)(hx:RD C s.heap Y x a)(hy:RD C s.heap Y y b)(q:∀tk,s.toks<=tk->Q (.bool (!c)) { s with toks:=tk }):wpAny C.M A (compareOp .NotIn x y) Q NE s:=by
 have hu:=p.units
 induction b using cD with
 |list l=>
  replace h:(if l.all (fun y=>D.like y a&&decide (D.dep y<=20)) then some (l.any (fun y=>D.beq y a)) else none)=some c:=h
  revert h;refine wL fun hl h=> ?_
  ·replace h:=j6 h;subst h
   refine jj hy.list_inv ?_;rintro a2 ws n2 rfl h2 r2
   refine xQ (fj (A:=A.in1) r2 hx hl (by refine(?_:A.units+1+21<9800);lia)) fun e he hq _=> ?_
   refine notIn_listAt e (jY h2) (fun y hy=>he y (by simpa using hy)) ?_
   have:=q s.toks nL
   rw[<-hq] at this
   simpa using this
 |dictS l=>
  refine mE (show (a.asStr?.map fun k=>(l.lookup k).isSome)=some c from h) fun u h1 hc=> ?_
  subst hc
  obtain rfl:=yo h1
  obtain⟨t,rfl⟩:=hx.str_inv
  obtain⟨a2,o,ks,vs,ds,rfl,rfl,h2,hd,hlen,hr,jv⟩:=R.dictS_inv hy
  have hD:s.heap.DictOf (strKind C.prog C.w) a2 (ks.zip vs):=Heap.dictOf_iff.mpr ⟨o,(jM h2).1,hd⟩
  refine wpAny_notIn_of (strKind_is _ _ u t) (by simpa using jv) hD.mapOf ?_
  rw[lookup_isSome hr]
  exact q _ (Nat.le_succ _)
 |_=>exact nn h
theorem uX{f:Int->Int->Bool}{x y:D}{c:Bool}(h:nC f x y=some c):∃i j,x= .int i/\y= .int j/\c=f i j:=by
 induction x using cD with
 |int i=>induction y using cD with
  |int j=>(replace h:=j6 h;subst h);exact⟨_,_,rfl,rfl,rfl⟩
  |_=>exact nn h
 |_=>exact nn h
theorem jCw{op:CmpOp}{x y:Value}{a b:D}{c:Bool}(p:yW (n+1) A)(h:wb op a b=some c)(hx:RD C s.heap Y x a)(hy:RD C s.heap Y y b)(q:∀tk,s.toks<=tk->Q (.bool c) { s with toks:=tk }):wpAny C.M A (compareOp op x y) Q NE s:=by
 have hu:=p.units
 have q0:=q s.toks nL
 induction op using cCO with
 |Eq=>
  have h:(if (D.like a b&&decide (D.dep a<=20))=true then some (D.beq a b) else none)=some c:=h
  revert h;refine yU (fun hl h=> ?_) fun _ h=> ?_
  ·replace h:=j6 h;subst h
   obtain⟨hl,tT⟩:=Bool.and_eq_true_iff.mp hl
   have tT:=of_decide_eq_true tT
   refine yu (P:=fun a b=>RD C s.heap Y x a->RD C s.heap Y y b->D.dep a<=20->Q (.bool (D.beq a b)) s->wpAny C.M A (compareOp .Eq x y) Q NE s) hl (fun i j hx hy _ q0=> ?_) (fun i j hx hy _ q0=> ?_) (fun i j k hx hy tT q0=>jJq k hx hy (by lia) q0) (fun i j k hx hy tT q0=>eq_tups k hx hy (by lia) q0) hx hy tT q0
   ·obtain⟨t,rfl⟩:=hx.int_inv;obtain⟨u,rfl⟩:=hy.int_inv
    exact P.eq_int q0
   ·obtain⟨t,rfl⟩:=hx.str_inv;obtain⟨u,rfl⟩:=hy.str_inv
    exact PyProof.Rows.eq_str q0
  ·exact nn h
 |NotEq=>
  have h:(if (D.like a b&&decide (D.dep a<=20))=true then some (!D.beq a b) else uK a b)=some c:=h
  revert h;refine yU (fun hl h=> ?_) fun _ h=> ?_
  ·replace h:=j6 h;subst h
   obtain⟨hl,tT⟩:=Bool.and_eq_true_iff.mp hl
   have tT:=of_decide_eq_true tT
   refine yu (P:=fun a b=>RD C s.heap Y x a->RD C s.heap Y y b->D.dep a<=20->Q (.bool (!D.beq a b)) s->wpAny C.M A (compareOp .NotEq x y) Q NE s) hl (fun i j hx hy _ q0=> ?_) (fun i j hx hy _ q0=> ?_) (fun i j k hx hy tT q0=>jI0 k hx hy (by lia) C.prog C.w NE Q q0) (fun i j k hx hy tT q0=>ne_tups k hx hy (by lia) C.prog C.w NE Q q0) hx hy tT q0
   ·obtain⟨t,rfl⟩:=hx.int_inv;obtain⟨u,rfl⟩:=hy.int_inv
    exact P.ne_int q0
   ·obtain⟨t,rfl⟩:=hx.str_inv;obtain⟨u,rfl⟩:=hy.str_inv
    exact PyProof.Rows.ne_str q0
  ·exact jFg (by lia) h hx hy q0
 |Lt=>(refine zB (uX h) ?_;rintro i j rfl rfl rfl);obtain⟨t,rfl⟩:=hx.int_inv;obtain⟨u,rfl⟩:=hy.int_inv;exact P.lt_int q0
 |Gt=>(refine zB (uX h) ?_;rintro i j rfl rfl rfl);obtain⟨t,rfl⟩:=hx.int_inv;obtain⟨u,rfl⟩:=hy.int_inv;exact P.gt_int q0
 |GtE=>(refine zB (uX h) ?_;rintro i j rfl rfl rfl);obtain⟨t,rfl⟩:=hx.int_inv;obtain⟨u,rfl⟩:=hy.int_inv;exact P.ge_int q0
 |In=>exact jJf p h hx hy q
 |NotIn=>
  refine mE h ?_;rintro c' hi rfl
  exact jEy p hi hx hy q
 |Is=>
  induction b using cD with
  |none=>
   rw[hy.none_inv]
   refine mE (show (a.asStr?.map fun _=>false)=some c from h) ?_;rintro u h1 rfl
   obtain rfl:=yo h1
   obtain⟨t,rfl⟩:=hx.str_inv
   exact PySem.is_none q0
  |_=>exact nn h
 |_=>exact nn h
theorem o5(slice:Expr)(o i:Value):∃ops,subscripted slice false o i=operate ops (getItem o i):=by
 induction slice using cE with
 |Slice lo hi st p=>
  induction st using cO with
  |none=>exact⟨_,rfl⟩
  |some _=>exact⟨_,rfl⟩
 |_=>exact⟨_,rfl⟩
theorem idx_neg{i:Int}{m:Nat}(h1:¬0<=i)(h2: -(m:Int)<=i):(i+m).toNat<m:=by
 have h3:0<=i+m:=by rw[<-Int.add_left_neg (m:Int)];exact Int.add_le_add_right h2 _
 refine(Int.toNat_lt h3).mpr ?_
 have:=Int.add_lt_add_right (Int.not_le.mp h1) (m:Int)
 rw[Int.zero_add] at this
 exact this
theorem uL{i:Int}{m j:Nat}(h:idx? i m=some j):j<m/\((0<=i/\i<m/\j=i.toNat)\/(i<0/\-(m:Int)<=i/\j=(i+m).toNat)):=by
 unfold idx? at h
 revert h;refine yU (fun h1 h=> ?_) fun h1 h=> ?_
 ·revert h;refine yU (fun h2 h=> ?_) fun _ h=> ?_
  ·rw[<-j6 h]
   exact⟨(Int.toNat_lt h1).mpr h2,.inl ⟨h1,h2,rfl⟩⟩
  ·exact nn h
 ·revert h;refine yU (fun h2 h=> ?_) fun _ h=> ?_
  ·rw[<-j6 h]
   exact⟨idx_neg h1 h2,.inr ⟨Int.not_le.mp h1,h2,rfl⟩⟩
  ·exact nn h
theorem arJ{i:Int}{m:Nat}(h:i<0)(k: -(m:Int)<=i):0<=i+m/\i+m<m:=by omega
theorem jGq{i:Int}{m j:Nat}(h:idx? i m=some j):seqIndex? i m=some j:=by
 obtain⟨h1,h2⟩:=uL h
 unfold seqIndex?
 rcases h2 with ⟨h2,h3,rfl⟩|⟨h2,h3,rfl⟩
 ·rw[if_neg (Int.not_lt.mpr h2)]
  exact if_pos (by rw[Bool.and_eq_true,decide_eq_true_eq,decide_eq_true_eq];exact⟨h2,h3⟩)
 ·rw[if_pos h2]
  exact if_pos (by rw[Bool.and_eq_true,decide_eq_true_eq,decide_eq_true_eq];exact arJ h2 h3)
theorem vw{i:Int}{m j:Nat}(h:idx? i m=some j)(k:m<=lim): -(2 ^ 63)<=i/\i<2 ^ 63:=by
 rcases (uL h).2 with ⟨h2,h3,_⟩|⟨h2,h3,_⟩
 ·exact⟨Int.le_trans kD h2,arF h3 k⟩
 ·exact⟨arG h3 k,Int.lt_trans h2 kD⟩
theorem jCo{l:List D}{i:Int}{d:D}(h:rJ l i=some d):l.length<=lim/\∃j,idx? i l.length=some j/\l[j]? =some d:=by
 unfold rJ at h
 revert h;refine wL fun hs h=> ?_
 ·exact⟨hs,zbs.mp h⟩
theorem jBe{value slice:Expr}{x y:Value}{a b d:D}(h0:wN a b=some d)(aE:RD C s.heap Y x a)(hy:RD C s.heap Y y b)(q:Kq C Y d s Q):wpAny C.M A (subscriptTail value slice x y) Q NE s:=by
 obtain⟨ops,dS⟩:=o5 slice x y
 have jw:lim=1000000:=rfl
 have h:itemD0 a.flat b=some d:=h0
 have hx:=aE.flat
 clear h0 aE
 generalize a.flat=a at h hx
 induction a using cD with
 |list ds=>
  refine jH (yv h) ?_;rintro i rfl h
  obtain⟨hs,j,hi,h⟩:=jCo h
  obtain⟨t,rfl⟩:=hy.int_inv
  refine jj hx.list_inv ?_;rintro a1 vs n1 rfl h1 r1
  refine jH (r1.get h) fun v hv hr=> ?_
  have hlen:=r1.length
  obtain⟨hj,wR⟩:=uL hi
  refine tail_any (jY h1).typeIs slot_list_getitem.lookup ?_ dS
  rcases wR with ⟨h2,h3,rfl⟩|⟨h2,h3,rfl⟩
  ·exact wpAny_getItem_list (jY h1) h2 (vw hi hs).2 (by simpa using hv) (q _ _ (KP.refl s) hr)
  ·exact wpAny_getItem_list_neg (jY h1) h2 (show -((vs.length:Nat):Int)<=i from hlen.symm▸h3) (vw hi hs).1 (by simp[hlen];exact hv) (q _ _ (KP.refl s) hr)
 |tup ds=>
  refine jH (yv h) ?_;rintro i rfl h
  obtain⟨hs,j,hi,h⟩:=jCo h
  obtain⟨t,rfl⟩:=hy.int_inv
  refine jj hx.tup_inv ?_;rintro a1 vs n1 rfl h1 r1
  refine jH (r1.get h) fun v hv hr=> ?_
  have hlen:=r1.length
  refine tail_any (jy h1).typeIs slot_tuple_getitem.lookup ?_ dS
  obtain⟨hj,wR⟩:=uL hi
  exact getItem_tuple (jy h1) (vw hi hs).1 (vw hi hs).2 (by simp only[List.size_toArray,hlen];exact jGq hi) (by simpa using hv) (q _ _ (KP.refl s) hr)
 |str x=>
  refine jH (yv h) ?_;rintro i rfl h
  revert h;refine wL fun hs h=> ?_
  ·refine bE h fun j hi h=> ?_
   refine mE h ?_;rintro c hc rfl
   obtain⟨t,rfl⟩:=hy.int_inv
   obtain⟨u,rfl⟩:=hx.str_inv
   refine tail_any (T:="str") rfl slot_str_getitem.lookup ?_ dS
   obtain⟨hj,wR⟩:=uL hi
   refine P.getItem_str (c:=c) (by rw[decide_eq_false (Int.not_lt.mpr (vw hi hs).1),decide_eq_false (Int.not_le.mpr (vw hi hs).2)];rfl) ?_ (q _ _ (KP.tok (Nat.le_succ _)) (.str _ _))
   rw[jGq hi];exact hc
 |dictS l=>
  refine jH (qT h) ?_;rintro kk rfl h
  obtain⟨t,rfl⟩:=hy.str_inv
  obtain⟨a2,o,ks,vs,ds,rfl,rfl,h2,hd,hlen,hr,jv⟩:=R.dictS_inv hx
  have hD:s.heap.DictOf (strKind C.prog C.w) a2 (ks.zip vs):=Heap.dictOf_iff.mpr ⟨o,(jM h2).1,hd⟩
  refine jH ((uW (ks:=ks) hr kk).1 d h) fun v hv hrv=> ?_
  refine tail_any hD.mapOf.typeIs slot_dict_getitem.lookup ?_ dS
  exact wpAny_getItem_of (strKind_is _ _ kk t) hD.mapOf hv (q _ _ (KP.tok (Nat.le_succ _)) hrv)
 |_=>exact nn h
theorem Rs.pick{vs:List Value}{ds:List D}(h:Rs C.prog C.w H vs ds):∀(js:List Nat),Rs C.prog C.w H (js.filterMap (vs[·]?)) (js.filterMap (ds[·]?))
 |[]=> .nil
 |j::js=>by
  have ih:=Rs.pick h js
  rw[List.filterMap_cons,List.filterMap_cons]
  generalize e:ds[j]? =x0;induction x0 using cO with
  |none=>
   have:vs[j]? =none:=by
    have hl:=h.length
    rw[List.getElem?_eq_none_iff] at e ⊢;lia
   rw[this];exact ih
  |some d=>
   refine jH (h.get e) fun v hv hr=> ?_
   rw[hv];exact .cons hr ih
theorem jAp{value slice:Expr}{x vl vu vs:Value}{ds:List D}{lo hi st:Option Int}{sl:Addr}(hx:RD C s.heap Y x (.list ds))(hs:s.heap.IsSliceOf sl vl vu vs)(pl:IsPart vl lo)(pu:IsPart vu hi)(ps:IsPart vs st)(h0:st≠some 0)(hlen:ds.length<=lim)
  (hP:C.P∈Y) (hY:∀a∈Y,a<s.heap.objs.size) (q:Kq C Y (.list (pick ds lo hi st)) s Q):wpAny C.M A (subscriptTail value slice x (.ref sl)) Q NE s:=by
 obtain⟨ops,dS⟩:=o5 slice x (.ref sl)
 refine jj hx.list_inv ?_;rintro a1 ws n1 rfl h1 r1
 have l1:=r1.length
 refine tail_any (jY h1).typeIs slot_list_getitem.lookup ?_ dS
 refine wpAny_getItem_list_slice (jY h1) hs pl pu ps h0 (q _ _ (KP.push nL) ?_) (by simp only[List.size_toArray];exact sz (by lia))
 refine .list (vs:=(sliceRange (sliceBounds lo hi st ds.length).1 (sliceBounds lo hi st ds.length).2.1 (sliceBounds lo hi st ds.length).2.2).filterMap (ws[·]?)) (n:=0) ?_ ?_
 ·have:=xI (tk:=s.toks) (o:=jc ((sliceRange (sliceBounds lo hi st ds.length).1 (sliceBounds lo hi st ds.length).2.1 (sliceBounds lo hi st ds.length).2.2).filterMap (ws[·]?)) 0) hY rfl
  simpa [jc,slicePick,l1] using this
 ·exact q5.kp (KP.push nL) hP (r1.pick _)
theorem jA0{value slice:Expr}{x:Str}{lo hi:Option (Int×Tok)}{sl:Addr}(hx:RD C s.heap Y v (.str x))(hs:s.heap.IsSlice sl lo hi none)(hlen:x.length<=lim)
  (q:Kq C Y (.str (Txt.slice x (lo.map (·.1)) (hi.map (·.1)))) s Q):wpAny C.M A (subscriptTail value slice v (.ref sl)) Q NE s:=by
 obtain⟨ops,dS⟩:=o5 slice v (.ref sl)
 obtain⟨t,rfl⟩:=hx.str_inv
 refine tail_any (T:="str") rfl slot_str_getitem.lookup ?_ dS
 refine wpAny_getItem_str_slice hs rfl ?_
 unfold sliceMade slicePicked
 unfold Txt.slice at q
 simp only[Option.map_none,Option.getD_none]
 split
 ·rename_i h
  rw[if_pos h] at q
  exact q _ _ (KP.refl s) (.str _ _)
 ·rename_i h
  rw[if_neg h] at q
  refine⟨?_,q _ _ (KP.tok (Nat.le_succ _)) (.str _ _)⟩
  refine xJ ?_ (sz hlen)
  refine(?_:(List.toArray _).size<=_)
  rw[List.size_toArray]
  exact xJ (List.length_filterMap_le _ _) (sliceIndices_le _ _ _)
theorem jN{e:Expr}{rest:List Expr}(h:isStarred e=false):starEach (e::rest) env=(false,eval e env)::starEach rest env:=by
 cases e <;> first|rfl|exact Bool.noConfusion h
theorem plain_any{pos:Pos}{es:List Expr}(h:∀e∈es,isStarred e=false):(backTo pos (starEach es env)).any (·.1)=false:=by
 induction es with
 |nil=>rfl
 |cons e es ih=>
  rw[jN (h e jk)]
  have:=ih fun x hx=>h x (qO _ hx)
  simp only[backTo,List.map_cons,List.any_cons] at this ⊢
  exact this
theorem Ess_is{sc:Scope}{e:Expr}{es:List Expr}{ds:List D}(h:wG r k sc l (e::es)=some ds):isStarred e=false/\∃d us,r.E k sc l e=some d/\wG r k sc l es=some us/\ds=d::us:=by
 have h:(if isStarred e=true then none else (r.E k sc l e).bind fun d=>(wG r k sc l es).bind fun us=>some (d::us))=some ds:=h
 revert h;refine tN fun hs h=> ?_
 refine bE h fun d h1 h2=> ?_
 refine bE h2 fun us h3 h4=> ?_
 exact⟨eq_false_of_ne_true hs,d,us,h1,h3,(j6 h4).symm⟩
theorem wF{sc:Scope}:∀{es:List Expr} {ds:List D},wG r k sc l es=some ds->∀e∈es,isStarred e=false
 |[],_,_,e,he=>nomatch he
 |e::es,ds,h,x,hx=>by
  obtain⟨hs,d,us,_,h2,_⟩:=Ess_is h
  rcases j0.mp hx with rfl|hx
  ·exact hs
  ·exact wF h2 x hx
theorem yM(S:SE C n r){pos:Pos}{es:List Expr}:∀{ds:List D} {s:Shared} {Q:List Value->Shared->Prop},Pre C n k A env Y l s->wG r k env.scope l es=some ds->
  (∀vs s',KP C s s'->Pre C n k A env Y l s'->q5 C s'.heap Y vs ds->Q vs s')->wpAny C.M A (spliced (backTo pos (starEach es env))) Q NE s:=by
 induction es with
 |nil=>
  intro ds s Q p h q
  replace h:=j6 h;subst h
  exact args_nil (q [] s (KP.refl s) p .nil)
 |cons e es ih=>
  intro ds s Q p h q
  obtain⟨xo,d,us,h1,h2,rfl⟩:=Ess_is h
  refine args_cons (S.at p h1 fun v s₁ k₁ p₁ r₁=> ?_) (jN xo)
  exact ih p₁ h2 fun vs s₂ k₂ p₂ r₂=>q (v::vs) s₂ (k₁.trans k₂) p₂ (.cons (r₁.kp k₂ p.hP) r₂)
theorem jGa(S:SE C n r){pos:Pos}{es:List Expr}{ds:List D}(p:Pre C n k A env Y l s)(h:wG r k env.scope l es=some ds)(hl:ds.length<=lim)(q:Kq C Y (.list ds) s Q):wpAny C.M A (eval (.List es pos) env) Q NE s:=by
 refine wpAny_List (yM S p h fun vs s₁ k₁ p₁ r₁=> ?_)
 have hlen:=r₁.length
 refine⟨by rw[hlen];exact sz hl,q _ _ (k₁.trans (KP.push nL)) (.list (vs:=vs) (n:=0) ?_ ?_)⟩
 ·exact xI (tk:=s₁.toks) (o:=jc vs 0) p₁.lt rfl
 ·exact q5.kp (KP.push nL) p.hP r₁
theorem jFd(S:SE C n r){pos:Pos}{kd:Nat}{es:List Expr}{ds:List D}(p:Pre C n k A env Y l s)(h:wG r k env.scope l es=some ds)(hl:ds.length<=lim)(q:Kq C Y (.tup ds) s Q):wpAny C.M A (eval (.Tuple es kd pos) env) Q NE s:=by
 refine wpAny_Tuple (yM S p h fun vs s₁ k₁ p₁ r₁=> ?_)
 have hlen:=r₁.length
 refine⟨by rw[hlen];exact sz hl,q _ _ (k₁.trans (KP.push nL)) (.tup (vs:=vs) (n:=0) ?_ ?_)⟩
 ·exact xI (tk:=s₁.toks) (o:=xt vs 0) p₁.lt rfl
 ·exact q5.kp (KP.push nL) p.hP r₁
open PySem.Spec
theorem zd(a b:Str):strLe a b=true↔a.cps.toList<=b.cps.toList:=by simp[strLe]
theorem zN(a b c:Str)(h:strLe a b=true)(g:strLe b c=true):strLe a c=true:=by
 rw[zd] at *;exact List.le_trans h g
theorem vh(a b:Str):(strLe a b||strLe b a)=true:=by
 rw[Bool.or_eq_true,zd,zd];exact List.le_total _ _
theorem jAe(a b:Str)(h:strLe a b=true)(g:strLe b a=true):a=b:=by
 rw[zd] at *
 have:=List.le_antisymm h g
 cases a;cases b
 simp only[Str.mk.injEq]
 exact Array.ext' this
theorem jAb:∀(p:Str) (l:List Str),risingS p l=true->(p::l).Pairwise (fun a b=>strLe a b=true)
 |p,[],_=>by simp
 |p,x::r,h=>by
  simp only[risingS,Bool.and_eq_true,Bool.not_eq_true',ltCps_eq,decide_eq_false_iff_not] at h
  have ih:=jAb x r h.2
  have hpx:strLe p x=true:=(zd _ _).mpr (List.not_lt.mp h.1)
  refine List.pairwise_cons.mpr ⟨fun y hy=> ?_,ih⟩
  rcases j0.mp hy with rfl|hy
  ·exact hpx
  ·exact zN _ _ _ hpx (List.rel_of_pairwise_cons ih hy)
theorem jIr{l l':List Str}(hp:l'.Perm l)(h:sortedS l'=true):l'=xv l:=by
 refine List.Perm.eq_of_pairwise (le:=fun a b=>strLe a b=true) (fun a b _ _ h g=>jAe a b h g) ?_ (List.pairwise_mergeSort zN vh l) (hp.trans (List.mergeSort_perm l strLe).symm)
 induction l' using cL with
 |nil=>exact .nil
 |cons x r=>exact jAb x r h
theorem jGp{vs:List Value}{ds:List D}(h:Rs C.prog C.w H vs ds):∀{ns:List Int},ints? ds=some ns->IntsAre vs ns:=
 h.ind (P:=fun vs ds=>∀{ns:List Int},ints? ds=some ns->IntsAre vs ns) (fun e=>(j6 e)▸.nil) fun v d vs ds r _ ih ns e=>by
  refine jH (asIntB (show (d.asInt?.bind fun i=>(ints? ds).map (i::·))=some ns from e)) ?_;rintro i rfl e
  refine mE e ?_;rintro ms h1 rfl
  obtain⟨t,rfl⟩:=r.int_inv
  exact .cons i t (ih h1)
theorem jGg{vs:List Value}{ds:List D}(h:Rs C.prog C.w H vs ds):∀{ns:List Str},strs? ds=some ns->StrsAre vs ns:=
 h.ind (P:=fun vs ds=>∀{ns:List Str},strs? ds=some ns->StrsAre vs ns) (fun e=>(j6 e)▸.nil) fun v d vs ds r _ ih ns e=>by
  refine jH (asStrB (show (d.asStr?.bind fun i=>(strs? ds).map (i::·))=some ns from e)) ?_;rintro i rfl e
  refine mE e ?_;rintro ms h1 rfl
  obtain⟨t,rfl⟩:=r.str_inv
  exact .cons i t (ih h1)
theorem Rs.ofStrs:∀{vs:List Value} {ns:List Str},StrsAre vs ns->Rs C.prog C.w H vs (ns.map .str)
 |_,_,.nil=> .nil
 |_,_,.cons n t r=> .cons (.str n t) (Rs.ofStrs r)
theorem wk:∀{vs:List Value} {ns:List Int},IntsAre vs ns->∃xs:List (Int×Tok),vs=xs.map (fun p=> .int p.1 p.2)/\xs.map (·.1)=ns
 |_,_,.nil=>⟨[],rfl,rfl⟩
 |_,_,.cons n t r=>by
  refine jH (wk r) fun xs h1 h2=> ?_
  exact⟨(n,t)::xs,by simp[h1],by simp[h2]⟩
theorem jHa{x:Value}{ds:List D}{ns:List Int}(hh:A.handled=none)(hx:RD C s.heap Y x (.list ds))(hi:ints? ds=some ns)(q:Kq C Y (.int ns.sum) s Q):wpAny C.M A (call (.builtin "sum") [x]) Q NE s:=by
 refine jj hx.list_inv ?_;rintro a vs m rfl h1 r1
 refine jH (wk (jGp r1 hi)) fun xs e1 e2=> ?_
 refine yE (sum_intListG (xs:=xs.toArray) hh ?_ fun h' tk t' hk ht=> ?_)
 ·have:=jY h1
  rw[e1] at this
  simpa [intItems] using this
 ·have e:preSum (numAt xs.toArray) xs.toArray.size=ns.sum:=by
   rw[preSum_eq];simp[e2]
   rw[<-e2,List.take_of_length_le (by simp)]
  rw[e]
  exact q _ _ (KP.of ht hk) (.int _ _)
theorem gv{h':Heap}{a:Addr}{o:Obj}(hY:∀a∈Y,a<s.heap.objs.size)(dF:s.heap.objs.size<=a)(e:h'.get? a=some o):view h' Y a=some o:=jX e fun h=>absurd (hY _ h) (Nat.not_lt.mpr dF)
theorem jC5{x:Value}{ds:List D}{d:D}(hY:∀a∈Y,a<s.heap.objs.size)(hx:RD C s.heap Y x (.list ds))(h:vp ds=some d)(q:Kq C Y d s Q):wpAny C.M A (call (.builtin "sorted") [x]) Q NE s:=by
 refine jj hx.list_inv ?_;rintro a vs m rfl h1 r1
 have l1:=r1.length
 unfold vp at h
 revert h;refine wL fun _ h=> ?_
 ·refine mE h ?_;rintro ss vI rfl
  refine sorted_strs (jY h1) (jGg r1 vI) (by lia) fun out ns' hI hp hs=> ?_
  obtain⟨e,he⟩:=sortedAll_at s.heap vs out
  rw[<-jIr hp hs] at q
  refine q _ _ (KP.of nL fun b o hb=>sortedAll_old hb) (.list (vs:=out.toList) (n:=e) ?_ (Rs.ofStrs hI))
  exact gv hY (Nat.le_succ _) (by rw[he];simp[jc])
theorem jCk:∀(l:List Int) (a b:Int),kS a (l++[b])=if b > kS a l then b else kS a l
 |[],a,b=>rfl
 |c::r,a,b=>by
  refine(?_:kS _ (r++[b])=_)
  rw[jCk r];rfl
theorem jGx(xs:Array (Int×Tok))(a:Int)(r:List Int)(h:xs.toList.map (·.1)=a::r):∀k,k<xs.size->numAt xs (argBest (fun i j=>decide (numAt xs i > numAt xs j)) k)=kS a (r.take k)/\argBest (fun i j=>decide (numAt xs i > numAt xs j)) k<=k
 |0,hk=>by
  have h0:xs[0]?.map (·.1)=some a:=by
   have:(xs.toList.map (·.1))[0]? =some a:=by rw[h];rfl
   simpa using this
  simp[argBest,numAt,h0,kS]
 |k+1,hk=>by
  obtain⟨ih,ihl⟩:=jGx xs a r h k (by refine Nat.lt_of_le_of_lt ?_ (by assumption);simp+arith)
  have nW:numAt xs (k+1)=r.getD k 0:=by
   have:(xs.toList.map (·.1))[k+1]? =r[k]? :=by rw[h];rfl
   have e:xs[k+1]?.map (·.1)=r[k]? :=by simpa using this
   simp[numAt,e]
  have hlen:r.length+1=xs.size:=by
   have:=congrArg List.length h
   simpa using this.symm
  have ht:r.take (k+1)=r.take k++[r.getD k 0]:=by
   rw[List.take_add_one]
   have:k<r.length:=by lia
   simp[this]
  unfold argBest
  rw[ht,jCk,<-ih]
  simp only[decide_eq_true_eq]
  split
  ·rename_i aT
   rw[nW] at aT ⊢
   exact⟨by rw[if_pos aT],nL⟩
  ·rename_i aT
   rw[nW] at aT
   exact⟨by rw[if_neg aT],(cj zA)⟩
theorem jHr{x:Value}{ds:List D}{a:Int}{rs:List Int}(hh:A.handled=none)(hx:RD C s.heap Y x (.list ds))(hi:ints? ds=some (a::rs))(q:Kq C Y (.int (kS a rs)) s Q):wpAny C.M A (call (.builtin "max") [x]) Q NE s:=by
 refine jj hx.list_inv ?_;rintro ad vs m rfl h1 r1
 refine jH (wk (jGp r1 hi)) fun xs e1 e2=> ?_
 have hlen:xs.length=rs.length+1:=by have:=congrArg List.length e2;simpa using this
 refine yE (max_intList (xs:=xs.toArray) hh ?_ (show 0<xs.length from hlen.symm▸Nat.succ_pos _) fun v h' tk hv hk ht=> ?_)
 ·have:=jY h1
  rw[e1] at this
  simpa [intItems] using this
 ·obtain⟨b1,b2⟩:=jGx xs.toArray a rs (by exact e2) (xs.toArray.size - 1) (Nat.sub_lt (show 0<xs.length from hlen.symm▸Nat.succ_pos _) kD)
  rw[List.take_of_length_le (show rs.length<=xs.toArray.size - 1 from Nat.le_of_eq (by rw[List.size_toArray,hlen];rfl))] at b1
  generalize argBest (fun i j=>decide (numAt xs.toArray i > numAt xs.toArray j)) (xs.toArray.size - 1)=j at b1 b2 hv
  have hj:j<xs.length:=Nat.lt_of_le_of_lt b2 (Nat.sub_lt (show 0<xs.length from hlen.symm▸Nat.succ_pos _) kD)
  have e:v= .int (xs[j]).1 (xs[j]).2:=by
   have:(intItems xs.toArray)[j]? =some (.int (xs[j]).1 (xs[j]).2):=by simp[intItems,hj]
   rw[this] at hv;exact(j6 hv).symm
  have e3:(xs[j]).1=kS a rs:=by rw[<-b1];simp[numAt,hj]
  rw[e,e3]
  exact q _ _ (KP.of ht hk) (.int _ _)
theorem jHc{i:Int}(h:small i=true):i.natAbs.log2<1920:=by
 have h':i.natAbs<2 ^ 60:=of_decide_eq_true h
 by_cases h0:i.natAbs=0
 ·rw[h0];decide
 ·have:=(Nat.log2_lt h0).mpr h'
  exact(ta zA zD)
noncomputable def vx(f:Str):Value:=if f="len" then .builtin "len" else if f="sum" then .builtin "sum" else if f="range" then .type "range" else if f="sorted" then .builtin "sorted" else if f="max" then .builtin "max" else if f="str" then .type "str" else .type "int"
theorem fV{as:List D}{vs:List Value}{d:D}{k1:D->Option D}{k2:D->D->Option D}(h:zR as k1 k2=some d)(hr:Rs C.prog C.w H vs as){P:List Value->Prop}(h1:∀u a,R C.prog C.w H u a->k1 a=some d->P [u])(h2:∀u v a b,R C.prog C.w H u a->R C.prog C.w H v b->k2 a b=some d->P [u,v]):P vs:=by
 cases hr with
 |nil=>exact nn h
 |cons r1 hr=>
  cases hr with
  |nil=>exact h1 _ _ r1 h
  |cons r2 hr=>
   cases hr with
   |nil=>exact h2 _ _ _ _ r1 r2 h
   |cons _ _=>exact nn h
theorem wz{as:List D}{vs:List Value}{d:D}{k1:D->Option D}(h:ui as k1=some d)(hr:Rs C.prog C.w H vs as){P:List Value->Prop}(h1:∀u a,R C.prog C.w H u a->k1 a=some d->P [u]):P vs:=fV h hr h1 fun _ _ _ _ _ _ h=>nn h
theorem tK{α:Type}{f g:Str}{P:Str->Prop}{x y:Option α}{d:α}(h1:x=some d->P g)(h2:y=some d->P f)(h:(if f=g then x else y)=some d):P f:=yU (fun e h=>by rw[e];exact h1 h) (fun _ h=>h2 h) h
theorem jAg{f:Str}{as:List D}{d:D}(h:q8 f as=some d){P:Str->Prop}(h1:ui as bj=some d->P "len")(h2:ui as (fun a=>a.asList?.bind fun l=>(ints? l).map fun ns=> .int ns.sum)=some d->P "sum")(h3:ui as (fun a=>a.asInt?.map fun n=> .rng 0 n)=some d->P "range")(h4:ui as (fun a=>a.asList?.bind vp)=some d->P "sorted")
  (h5:zR as (fun a=>a.asList?.bind fun l=>(ints? l).bind bh) (fun a b=>a.asInt?.bind fun x=>b.asInt?.map fun y=> .int (if y > x then y else x))=some d->P "max") (h6:ui as (fun a=>a.asInt?.bind fun i=>if small i then some (.str (Str.ofString (toString i))) else none)=some d->P "str") (h7:ui as (fun a=>a.asStr?.bind fun x=>if x.length<=640 then (PySem.intText? x).map .int else none)=some d->P "int"):P f:=
tK h1 (tK h2 (tK h3 (tK h4 (tK h5 (tK h6 (tK h7 nn)))))) h
theorem jHu{x:Value}{a d:D}(hx:RD C s.heap Y x a)(h:bj a=some d)(q:Kq C Y d s Q):wpAny C.M A (call (.builtin "len") [x]) Q NE s:=by
 have jw:lim=1000000:=rfl
 induction a using cD with
 |list l=>
  replace h:(if l.length<=lim then some (D.int l.length) else none)=some d:=h
  revert h;refine wL fun _ h=> ?_
  ·replace h:=j6 h;subst h
   refine jj hx.list_inv ?_;rintro a vs m rfl h1 r1
   refine call_len_list (jY h1) (by have:=r1.length;simp;lia) ?_
   have:=q (.int vs.toArray.size (s.toks+1)) _ (KP.tok (tk:=s.toks+1+1) (by simp+arith only)) (by rw[List.size_toArray,r1.length];exact .int _ _)
   exact this
 |str y=>
  replace h:(if y.length<=lim then some (D.int y.length) else none)=some d:=h
  revert h;refine wL fun _ h=> ?_
  ·replace h:=j6 h;subst h
   obtain⟨t,rfl⟩:=hx.str_inv
   exact P.len_str (by lia) (q _ _ (KP.tok (by simp+arith only)) (.int _ _))
 |_=>exact nn h
theorem jEv{vs:List Value}{as:List D}{d:D}(hY:∀a∈Y,a<s.heap.objs.size)(hr:q5 C s.heap Y vs as)(h:ui as (fun a=>a.asInt?.map fun n=> .rng 0 n)=some d)(q:Kq C Y d s Q):wpAny C.M A (call (.type "range") vs) Q NE s:=by
 refine wz h hr (P:=fun vs=>wpAny C.M A (call (.type "range") vs) Q NE s) fun u a ru ha=> ?_
 refine jH (kB ha) ?_;rintro i rfl rfl
 obtain⟨t,rfl⟩:=ru.int_inv
 refine call_range_1 (q _ _ (KP.push (by simp+arith only)) (.rng (t:=s.toks) (u:=t) (v:=s.toks+1) ?_))
 exact gv hY nL (Heap.get?_push_size _ rfl)
theorem jI4{vs:List Value}{as:List D}{d:D}(hh:A.handled=none)(hr:q5 C s.heap Y vs as)(h:zR as (fun a=>a.asList?.bind fun l=>(ints? l).bind bh) (fun a b=>a.asInt?.bind fun x=>b.asInt?.map fun y=> .int (if y > x then y else x))=some d)(q:Kq C Y d s Q):wpAny C.M A (call (.builtin "max") vs) Q NE s:=by
 refine fV h hr (P:=fun vs=>wpAny C.M A (call (.builtin "max") vs) Q NE s) (fun u a ru ha=> ?_) fun u v a b ru rv ha=> ?_
 ·refine jH (qd ha) ?_;rintro l rfl ha
  refine bE ha fun ns hi ha=> ?_
  induction ns using cL with
  |nil=>exact nn ha
  |cons a rs=>(replace ha:=j6 ha;subst ha);exact jHr hh ru hi q
 ·refine jH (yv ha) ?_;rintro i rfl ha
  refine jH (kB ha) ?_;rintro j rfl rfl
  obtain⟨t,rfl⟩:=ru.int_inv
  obtain⟨u,rfl⟩:=rv.int_inv
  refine yE (max_two_ints hh fun h' tk hk ht=> ?_)
  by_cases hc:j > i
  ·rw[if_pos hc];rw[if_pos hc] at q;exact q _ _ (KP.of ht hk) (.int _ _)
  ·rw[if_neg hc];rw[if_neg hc] at q;exact q _ _ (KP.of ht hk) (.int _ _)
theorem jDi{f:Str}{ds:List D}{vs:List Value}{d:D}(hh:A.handled=none)(hP:C.P∈Y)(hY:∀a∈Y,a<s.heap.objs.size)(h:q8 f ds=some d)(hr:q5 C s.heap Y vs ds)(q:Kq C Y d s Q):wpAny C.M A (call (vx f) vs) Q NE s:=by
 refine jAg h (P:=fun f=>wpAny C.M A (call (vx f) vs) Q NE s) (fun h=> ?_) (fun h=> ?_) (fun h=>jEv hY hr h q) (fun h=> ?_) (fun h=>jI4 hh hr h q) (fun h=> ?_) fun h=> ?_
 ·exact wz h hr (P:=fun vs=>wpAny C.M A (call (.builtin "len") vs) Q NE s) fun u a ru ha=>jHu ru ha q
 ·refine wz h hr (P:=fun vs=>wpAny C.M A (call (.builtin "sum") vs) Q NE s) fun u a ru ha=> ?_
  refine jH (qd ha) ?_;rintro l rfl ha
  refine mE ha ?_;rintro ns hi rfl
  exact jHa hh ru hi q
 ·refine wz h hr (P:=fun vs=>wpAny C.M A (call (.builtin "sorted") vs) Q NE s) fun u a ru ha=> ?_
  refine jH (qd ha) ?_;rintro l rfl ha
  exact jC5 hY ru ha q
 ·refine wz h hr (P:=fun vs=>wpAny C.M A (call (.type "str") vs) Q NE s) fun u a ru ha=> ?_
  refine jH (yv ha) ?_;rintro i rfl ha
  revert ha;refine wL fun hs ha=> ?_
  ·replace ha:=j6 ha;subst ha
   obtain⟨t,rfl⟩:=ru.int_inv
   exact P.str_of_int (jHc hs) (q _ _ (KP.tok (Nat.le_succ _)) (.str _ _))
 ·refine wz h hr (P:=fun vs=>wpAny C.M A (call (.type "int") vs) Q NE s) fun u a ru ha=> ?_
  refine jH (qT ha) ?_;rintro x rfl ha
  revert ha;refine wL fun hs ha=> ?_
  ·refine mE ha ?_;rintro m hi rfl
   obtain⟨t,rfl⟩:=ru.str_inv
   exact KIN.call_text hi hs (q _ _ (KP.tok (Nat.le_succ _)) (.int _ _))
theorem jCc:∀(m:Nat) (xs:List Str),Rs C.prog C.w H (strsFrom m xs) (xs.map .str)
 |_,[]=> .nil
 |m,x::r=>by
  refine(?_:Rs _ _ _ (Value.str x m::strsFrom (m+1) r) _)
  exact .cons (.str x m) (jCc (m+1) r)
theorem jA3:∀{vs:List Value} {ns:List Str},StrsAre vs ns->∃xs:List (Str×Tok),vs=strValues xs/\xs.map (·.1)=ns
 |_,_,.nil=>⟨[],rfl,rfl⟩
 |_,_,.cons n t r=>by
  refine jH (jA3 r) fun xs h1 h2=> ?_
  exact⟨(n,t)::xs,by simp[strValues,h1],by simp[h2]⟩
theorem jCn(m:Nat):∀(ss:List Str) (acc:Nat),(ss.all (fun s=>decide (s.length<=1000)))=true->ss.foldl (·+·.length+m) acc<=acc+ss.length * (1000+m)
 |[],acc,_=>by simp
 |x::r,acc,h=>by
  simp only[List.all_cons,Bool.and_eq_true,decide_eq_true_eq] at h
  have:=jCn m r (acc+x.length+m) h.2
  rw[List.foldl_cons,List.length_cons]
  have e:(r.length+1) * (1000+m)=r.length * (1000+m)+(1000+m):=by rw[Nat.add_mul];simp+arith only
  lia
noncomputable def gY(m:Str):String:=if m="find" then "str.find" else if m="split" then "str.split" else if m="join" then "str.join" else "list.index"
theorem jA9{o d:D}{f:Str}{as:List D}(h:kC o f as=some d){P:Str->Prop}(h1:o.asStr?.bind (fun x=>zR as (fun a=>a.asStr?.map fun y=> .int (Txt.find x y)) fun a b=>a.asStr?.bind fun y=>b.asInt?.map fun i=> .int (jD9 x y i))=some d->P "find")(h2:o.asStr?.bind (fun x=>ui as fun a=>a.asStr?.bind fun y=>oP x y)=some d->P "split")
  (h3:o.asStr?.bind (fun x=>ui as fun a=>a.asList?.bind fun l=>rI x l)=some d->P "join") (h4:o.asList?.bind (fun l=>ui as fun x=>gc l x)=some d->P "index"):P f:=tK h1 (tK h2 (tK h3 (tK h4 nn))) h
theorem jFk{x y:Str}{t u:Tok}{d:D}(hY:∀a∈Y,a<s.heap.objs.size)(h:oP x y=some d)(q:Kq C Y d s Q):wpAny C.M A (call (.builtin "str.split") [.str x t,.str y u]) Q NE s:=by
 unfold oP at h
 revert h;refine wL fun hs h=> ?_
 ·replace h:=j6 h;subst h
  refine fS hs fun g1 g2 g3 g4 g5=> ?_;clear hs
  have hz:sizeLine=16777216:=by decide
  refine call_meets F.slot_str_split (typeIs_str _ _ _) F.entry_str_split (F.args_str_split_2 _ _) (meets_str_split_sep _ _ t u g3 (by simp[g1]) g4 j8 j8) ?_
  refine q _ _ (KP.push (by simp+arith only)) (.list (vs:=strsFrom s.toks _) (n:=0) ?_ (jCc _ _))
  exact gv hY nL (Heap.get?_push_size _ rfl)
theorem jHx{x:Str}{t:Tok}{l:List D}{d:D}(p:yW (n+1) A)(hv:RD C s.heap Y v (.list l))(h:rI x l=some d)(q:Kq C Y d s Q):wpAny C.M A (call (.builtin "str.join") [.str x t,v]) Q NE s:=by
 have hu:=p.units
 unfold rI at h
 revert h;refine wL fun _ h=> ?_
 ·refine bE h fun ss hi h=> ?_
  revert h;refine wL fun _ h=> ?_
  ·rename_i hs mu;replace h:=j6 h;subst h
   refine jj hv.list_inv ?_;rintro a vs m rfl h1 r1
   refine jH (jA3 (jGg r1 hi)) fun xs e1 e2=> ?_
   refine yE (SC.join (D:=a) (l:=xs) (texts:=ss) ?_ e2 ?_ fun t' k' ht=>q _ _ (KP.tok ht) (.str _ _))
   ·rw[<-e1];exact jY h1
   ·unfold JoinOk Builtin.Str.tooLong
    have:=jCn x.length ss 0 mu
    have e3:ss.length=l.length:=by
     have:=congrArg List.length e2
     have l1:=r1.length
     rw[e1] at l1
     simp[strValues] at l1 this
     lia
    have hz:sizeLine=16777216:=by decide
    simp only[List.foldl_toArray',Bool.not_eq_true',decide_eq_false_iff_not]
    have:ss.length * (1000+x.length)<=1000 * 1000:=Nat.mul_le_mul (by lia) (by lia)
    simp
    lia
theorem jFy{l:List D}{x d:D}{ov:Value}(p:yW (n+1) A)(ho:RD C s.heap Y ov (.list l))(h1:RD C s.heap Y v x)(h:gc l x=some d)(q:Kq C Y d s Q):wpAny C.M A (call (.builtin "list.index") [ov,v]) Q NE s:=by
 have hu:=p.units
 unfold gc at h
 revert h;refine wL fun hs h=> ?_
 ·refine mE h fun j hi hj=> ?_
  subst hj
  refine jj ho.list_inv ?_;rintro a ws m rfl h2 r2
  refine xQ (fj (A:=A.in1) r2 h1 hs.2 (by refine(?_:A.units+1+21<9800);lia)) fun e he _ hb=> ?_
  obtain⟨hj,hj1,hj2⟩:=List.findIdx?_eq_some_iff_getElem.mp hi
  have hlen:=r2.length
  have at_:∀i (hi:i<l.length),e (ws[i]'(by lia))=D.beq l[i] x:=fun i hi=>by
   refine jH (r2.get (k:=i) (d:=l[i]) (by simp)) fun v hv hr=> ?_
   have:ws[i]'(by lia)=v:=by
    have h3:ws[i]? =some (ws[i]'(by lia)):=by simp
    rw[h3] at hv;exact j6 hv
   rw[this]
   exact hb v _ (by rw[<-this];exact List.getElem_mem _) (List.getElem_mem _) hr
  refine call_meets F.slot_list_index (jY h2).typeIs F.entry_list_index (F.args_list_index_2 _ _) (list_indexAt a ws.toArray m none #[] _ e j (by simp;lia) (by lia) (by exact(at_ j hj).trans hj1) fun i hi sI=> ?_) ⟨(jM h2).1,fun y hy=>he y (by simpa using hy),?_⟩
  ·have:=at_ i (by simp at hi;lia)
   have h4:=hj2 i sI
   simp only[Bool.not_eq_true] at h4
   exact this.trans h4
  ·exact q _ _ (KP.tok (Nat.le_succ _)) (.int _ _)
theorem jHp{o d:D}{m:Str}{ds:List D}{ov:Value}{vs:List Value}(p:yW (n+1) A)(hP:C.P∈Y)(hY:∀a∈Y,a<s.heap.objs.size)(h:kC o m ds=some d)(ho:RD C s.heap Y ov o)(hr:q5 C s.heap Y vs ds)(q:Kq C Y d s Q):wpAny C.M A (call (.builtin (gY m)) (ov::vs)) Q NE s:=by
 refine jA9 h (P:=fun m=>wpAny C.M A (call (.builtin (gY m)) (ov::vs)) Q NE s) (fun h=> ?_) (fun h=> ?_) (fun h=> ?_) fun h=> ?_
 ·refine jH (qT h) ?_;rintro x rfl h
  obtain⟨t,rfl⟩:=ho.str_inv
  refine fV h hr (P:=fun vs=>wpAny C.M A (call (.builtin "str.find") (.str x t::vs)) Q NE s) (fun u a ru ha=> ?_) fun u v a b ru rv ha=> ?_
  ·refine mE ha fun y hy hd=> ?_
   obtain rfl:=yo hy
   subst hd
   obtain⟨u,rfl⟩:=ru.str_inv
   exact SC.find (q _ _ (KP.tok (Nat.le_succ _)) (.int _ _))
  ·refine jH (qT ha) ?_;rintro y rfl ha
   refine jH (kB ha) ?_;rintro i rfl rfl
   obtain⟨u,rfl⟩:=ru.str_inv
   obtain⟨v,rfl⟩:=rv.int_inv
   exact call_gives F.slot_str_find (typeIs_str _ _ _) F.entry_str_find (F.args_str_find_3 _ _ _) (gives_str_find_from _ _ _ t u v) (q _ _ (KP.tok (Nat.le_succ _)) (.int _ _))
 ·refine jH (qT h) ?_;rintro x rfl h
  obtain⟨t,rfl⟩:=ho.str_inv
  refine wz h hr (P:=fun vs=>wpAny C.M A (call (.builtin "str.split") (.str x t::vs)) Q NE s) fun u a ru ha=> ?_
  refine jH (qT ha) ?_;rintro y rfl ha
  obtain⟨u,rfl⟩:=ru.str_inv
  exact jFk hY ha q
 ·refine jH (qT h) ?_;rintro x rfl h
  obtain⟨t,rfl⟩:=ho.str_inv
  refine wz h hr (P:=fun vs=>wpAny C.M A (call (.builtin "str.join") (.str x t::vs)) Q NE s) fun u a ru ha=> ?_
  refine jH (qd ha) ?_;rintro l rfl ha
  exact jHx p ru ha q
 ·refine jH (qd h) ?_;rintro l rfl h
  exact wz h hr (P:=fun vs=>wpAny C.M A (call (.builtin "list.index") (ov::vs)) Q NE s) fun u a ru ha=>jFy p ho ru ha q
set_option tactic.hygienic true in
theorem jB9{d:D}{b:Bool}{Q:Bool->Shared->Prop}(h0:kn d=some b)(pv:RD C s.heap Y v d)(q:∀tk,s.toks<=tk->Q b { s with toks:=tk }):wpAny C.M A (truthy v) Q NE s:=by
 have h:truD0 d.flat=some b:=h0
 have hv:=pv.flat
 clear h0 pv
 generalize d.flat=d at h hv
 induction d using cD with
 |bool c=>
  replace h:=j6 h;subst h;rw[hv.bool_inv];exact wpAny_truthy_bool (q _ nL)
 |list ds=>
  replace h:(if ds.length<=lim then some (!ds.isEmpty) else none)=some b:=h
  revert h;refine yU (fun hs h=> ?_) (fun _ h=> ?_)
  ·replace h:=j6 h;subst h
   refine jj hv.list_inv ?_;rintro a vs m rfl h1 r1
   have hl:=r1.length
   have jw:lim=1000000:=rfl
   refine wpAny_truthy_list (jY h1) (by simp;lia) ?_
   have:=q (s.toks+1+1) (by simp+arith only)
   have e:(!vs.toArray.isEmpty)= !ds.isEmpty:=by
    induction vs using cL with
    |nil=>induction ds using cL with
     |nil=>rfl
     |cons=>simp at hl
    |cons=>induction ds using cL with
     |nil=>simp at hl
     |cons=>simp
   rw[e];exact this
  ·exact zn h
 |_=>exact zn h
theorem jD1{op:CmpOp}{e:Expr}(h:qZ e=false):behindInMarks op e=false:=by
 cases e <;> first|rfl|(exact Bool.noConfusion h)
theorem gQ(S:SE C n r)(a1:yW (n+1) A)(m:Nat):∀{e:Expr} {b:Bool} {s:Shared} {Q:Bool->Shared->Prop},Pre C n k A env Y l s->Bt r k env.scope l m e=some b->
  (∀s',KP C s s'->Pre C n k A env Y l s'->Q b s')->wpAny C.M A (isTrue e env (eval e env)) Q NE s:=by
 induction m with
 |zero=>
  intro e b s Q p h q
  cases h
 |succ m ih=>
  intro e b s Q p h q
  induction e using cE with
  |UnaryOp op x pos=>
   induction op using cU with
   |Not=>
    refine mE h ?_;rintro c h1 rfl
    exact isTrue_not (ih p h1 fun s' k' p'=>q s' k' p')
   |_=>exact nn h
  |BoolOp op es pos=>
   induction op using cBO with
   |And=>
    induction es using cL with
    |nil=>exact nn h
    |cons x es=>
     induction es using cL with
     |nil=>exact nn h
     |cons y es=>
      induction es using cL with
      |cons _ _=>exact nn h
      |nil=>
       refine bE (show (Bt r k env.scope l m x).bind (fun b=>if b=true then Bt r k env.scope l m y else some false)=some b from h) fun c h1 h=> ?_
       refine isTrue_and (ih p h1 fun s' k' p'=> ?_)
       induction c using cT with
       |false=>(replace h:=j6 h;subst h);rw[if_neg Bool.false_ne_true];exact q s' k' p'
       |true=>
        rw[if_pos rfl]
        refine isTrue_and (ih p' h fun gS sy sb=> ?_)
        induction b using cT with
        |false=>rw[if_neg Bool.false_ne_true];exact q gS (k'.trans sy) sb
        |true=>rw[if_pos rfl];exact isTrue_and_nil (q gS (k'.trans sy) sb)
   |Or=>
    induction es using cL with
    |nil=>exact nn h
    |cons x es=>
     induction es using cL with
     |nil=>exact nn h
     |cons y es=>
      induction es using cL with
      |cons _ _=>exact nn h
      |nil=>
       refine bE (show (Bt r k env.scope l m x).bind (fun b=>if b=true then some true else Bt r k env.scope l m y)=some b from h) fun c h1 h=> ?_
       refine isTrue_or (ih p h1 fun s' k' p'=> ?_)
       induction c using cT with
       |true=>(replace h:=j6 h;subst h);rw[if_pos rfl];exact q s' k' p'
       |false=>
        rw[if_neg Bool.false_ne_true]
        refine isTrue_or (ih p' h fun gS sy sb=> ?_)
        induction b using cT with
        |true=>rw[if_pos rfl];exact q gS (k'.trans sy) sb
        |false=>rw[if_neg Bool.false_ne_true];exact isTrue_or_nil (q gS (k'.trans sy) sb)
  |Compare x ops ys pos=>
   induction ops using cL with
   |nil=>exact nn h
   |cons op ops=>
    induction ops using cL with
    |cons _ _=>exact nn h
    |nil=>
     induction ys using cL with
     |nil=>exact nn h
     |cons y ys=>
      induction ys using cL with
      |cons _ _=>exact nn h
      |nil=>
       have h:(if qZ y=true then none else (r.E k env.scope l x).bind fun a=>(r.E k env.scope l y).bind fun b=>wb op a b)=some b:=h
       revert h;refine yU (fun _ h=> ?_) fun wJ h=> ?_
       ·exact nn h
       ·refine bE h fun a h1 h=> ?_
        refine bE h fun c h2 h=> ?_
        refine wpAny_isTrue_Compare1 (S.at p h1 fun v1 s₁ k₁ p₁ r₁=>S.at p₁ h2 fun v2 s₂ k₂ p₂ r₂=>jCw a1 h (r₁.kp k₂ p.hP) r₂ fun tk ht=>wpAny_truthy_bool ?_) (jD1 (by simpa using wJ))
        have kk:KP C s₂ { s₂ with toks:=tk }:=KP.tok ht
        exact q _ ((k₁.trans k₂).trans kk) (p₂.kp kk)
  |Name x pp=>
   refine bE (show (r.E k env.scope l (.Name x pp)).bind kn=some b from h) fun d h1 h=> ?_
   refine isTrue_plain (S.at p h1 fun v s₁ k₁ p₁ r₁=>jB9 h r₁ fun tk ht=> ?_)
   have kk:KP C s₁ { s₁ with toks:=tk }:=KP.tok ht
   exact q _ (k₁.trans kk) (p₁.kp kk)
  |Call f as ks pp=>
   refine bE (show (r.E k env.scope l (.Call f as ks pp)).bind kn=some b from h) fun d h1 h=> ?_
   refine isTrue_plain (S.at p h1 fun v s₁ k₁ p₁ r₁=>jB9 h r₁ fun tk ht=> ?_)
   have kk:KP C s₁ { s₁ with toks:=tk }:=KP.tok ht
   exact q _ (k₁.trans kk) (p₁.kp kk)
  |_=>exact nn h
theorem dP.ne{h:Heap}(f:dP env h){p:Str×Addr}(hp:p∈env.cells):p.2≠env.locals:=by
 intro e
 refine qU (f.cl p hp) fun v o ho hd=> ?_
 refine oN f.ns fun m o' es ep ho' yP _=> ?_
 rw[e] at ho
 rw[ho] at ho'
 replace ho':=j6 ho';subst ho'
 rw[hd] at yP;cases yP
theorem vj{x:Str}{Q:Unit->Shared->Prop}(kind:env.scope.kind= .function)(cells:∀n,env.kindOf n=some .cell\/env.kindOf n=some .free->(env.cells.lookup n).isSome=true)(fm:dP env s.heap)(hk:env.kindOf x=some .local\/env.kindOf x=some .cell)
  (hQ:∀h' tk a,s.toks<=tk->(a=env.locals\/(env.kindOf x=some .cell/\env.cells.lookup x=some a))->Heap.SameBut a s.heap h'->dP env h'->jt env h' x v->(∀y u,y≠x->jt env s.heap y u->jt env h' y u)->Q () { s with heap:=h',toks:=tk }):
  wpAny C.M A (storeName env x v) Q NE s:=by
 rcases hk with hk|hk
 ·obtain⟨m,hn⟩:=fm.ns
  refine wpAny_storeName_local hk hn (fun h' dr hs=> ?_) (by rw[kind];rfl)
  refine hQ h' _ env.locals (Nat.le_succ _) (.inl rfl) hs ⟨⟨_,dr⟩,fun p hp=> ?_,fm.apart⟩ (.inl ⟨hk,_,dr,by simp⟩) ?_
  ·obtain⟨u,hu⟩:=fm.cl p hp
   exact⟨u,hu.sameBut hs (fm.ne hp)⟩
  ·intro y u hy hv
   rcases hv with ⟨bJ,m2,mS,aO⟩|⟨bJ,c,hc,hv⟩
   ·refine .inl ⟨bJ,_,dr,?_⟩
    rw[if_neg hy,hn.agree mS];exact aO
   ·exact .inr ⟨bJ,c,hc,hv.sameBut hs (fm.ne (mem_of_lookup hc))⟩
 ·obtain⟨c,hc⟩:=Option.isSome_iff_exists.mp (cells x (.inl hk))
  have qu:=mem_of_lookup hc
  obtain⟨v0,pv⟩:=fm.cl _ qu
  refine wpAny_storeName_cell kind hk hc pv fun h' dD hs=> ?_
  refine hQ h' s.toks c nL (.inr ⟨hk,hc⟩) hs ⟨?_,fun p hp=> ?_,fm.apart⟩ (.inr ⟨.inl hk,c,hc,dD⟩) ?_
  ·obtain⟨m,hn⟩:=fm.ns
   exact⟨m,hn.sameBut hs (fun e=>fm.ne qu e.symm)⟩
  ·by_cases e:p.2=c
   ·rw[e];exact⟨_,dD⟩
   ·obtain⟨u,hu⟩:=fm.cl p hp
    exact⟨u,hu.sameBut hs e⟩
  ·intro y u hy hv
   rcases hv with ⟨bJ,m2,mS,aO⟩|⟨bJ,c2,aa,lM⟩
   ·exact .inl ⟨bJ,m2,mS.sameBut hs (fun e=>by
     refine jj mS fun o es ep ho hd _=> ?_;clear mS
     refine jH pv fun o' ho' yP=> ?_;clear pv
     rw[e] at ho
     rw[ho] at ho';replace ho':=j6 ho';subst ho';rw[hd] at yP;cases yP),aO⟩
   ·refine .inr ⟨bJ,c2,aa,lM.sameBut hs fun e=> ?_⟩
    subst e
    exact hy (name_of_addr fm.apart (mem_of_lookup aa) qu)
theorem gN(names:fC):∀(h:Heap) (acc:yV),(∀p∈acc,∃v,h.IsCell p.2 v)->(acc.Pairwise fun x y=>x.2≠y.2)->
  (∀p∈cellsFrom h.objs.size names acc,∃v,(pushCells h names).IsCell p.2 v)/\((cellsFrom h.objs.size names acc).Pairwise fun x y=>x.2≠y.2)/\(∀p∈cellsFrom h.objs.size names acc,p∈acc\/h.objs.size<=p.2):=by
 induction names with
 |nil=>
  intro h acc h1 h2
  exact⟨h1,h2,fun p hp=> .inl hp⟩
 |cons q0 rs ih=>
  obtain⟨name,kind⟩:=q0
  intro h acc h1 h2
  unfold pushCells cellsFrom
  split
  ·have:=ih (h.push { cls:= .type "cell",data:= .cell none }) ((name,h.objs.size)::acc)
    (fun p hp=>by
     rcases j0.mp hp with rfl|hp
     ·exact⟨_,_,Heap.get?_push_size _ rfl,rfl⟩
     ·obtain⟨v,hv⟩:=h1 p hp
      exact⟨v,hv.keeps fun b o e=>wW _ e⟩)
    (List.pairwise_cons.mpr ⟨fun y hy e=>by
     obtain⟨v,hv⟩:=h1 y hy
     have e':h.objs.size=y.2:=e
     exact Nat.lt_irrefl _ (e'▸hv.lt),h2⟩)
   rw[Heap.size_push] at this
   refine⟨this.1,this.2.1,fun p hp=> ?_⟩
   rcases this.2.2 p hp with h|h
   ·rcases j0.mp h with rfl|h
    ·exact .inr nL
    ·exact .inl h
   ·exact .inr (by refine xJ ?_ (by assumption);simp+arith)
  ·exact ih h acc h1 h2
theorem xA(names:fC):∀(m:Nat) (acc:yV) (x:Str),(names.lookup x=some .cell\/(acc.lookup x).isSome=true)->((cellsFrom m names acc).lookup x).isSome=true:=by
 induction names with
 |nil=>
  intro m acc x h
  rcases h with h|h;cases h;exact h
 |cons q0 rs ih=>
  obtain⟨name,kind⟩:=q0
  intro m acc x h
  unfold cellsFrom
  split
  ·rename_i hk
   refine ih (m+1) _ x ?_
   by_cases e:x=name
   ·subst e;right;simp
   ·have e':(x==name)=false:=by simpa using e
    rcases h with h|h
    ·left;rw[List.lookup_cons,e'] at h;exact h
    ·right;rw[List.lookup_cons,e'];exact h
  ·rename_i hk
   refine ih m acc x ?_
   by_cases e:x=name
   ·subst e
    rcases h with h|h
    ·simp only[List.lookup_cons,beq_self_eq_true,Option.some.injEq] at h
     rw[h] at hk;exact absurd rfl hk
    ·exact .inr h
   ·have e':(x==name)=false:=by simpa using e
    rcases h with h|h
    ·left;rw[List.lookup_cons,e'] at h;exact h
    ·exact .inr h
theorem xm:∀(names:fC) (m:Nat) (acc:yV) (x:Str),(∀q∈names,q.1=x->q.2≠.cell)->(cellsFrom m names acc).lookup x=acc.lookup x
 |[],m,acc,x,h=>rfl
 |(name,kind)::rs,m,acc,x,h=>by
  unfold cellsFrom
  split
  ·rename_i hk
   have jv:x≠name:=fun e=>h (name,kind) jk e.symm (by simpa using hk)
   rw[xm rs (m+1) _ x fun q hq=>h q (qO _ hq),List.lookup_cons]
   have e':(x==name)=false:=by simpa using jv
   rw[e']
  ·exact xm rs m acc x fun q hq=>h q (qO _ hq)
theorem jCx(names:fC):∀(m:Nat) (acc:yV) (x:Str),(∃q∈names,q.1=x/\q.2= .cell)->∃c,m<=c/\(cellsFrom m names acc).lookup x=some c:=by
 induction names with
 |nil=>
  intro m acc x h
  (refine jH h fun q hq _=> ?_;clear h);cases hq
 |cons q0 rs ih=>
  obtain⟨name,kind⟩:=q0
  intro m acc x h
  unfold cellsFrom
  by_cases hr:∃q∈rs,q.1=x/\q.2= .cell
  ·split
   ·refine jH (ih (m+1) ((name,m)::acc) x hr) fun c h1 h2=> ?_
    exact⟨c,by refine xJ ?_ (by assumption);simp+arith,h2⟩
   ·exact ih m acc x hr
  ·refine xQ h fun q hq h1 h2=> ?_;clear h
   rcases j0.mp hq with rfl|hq
   ·simp only at h1 h2
    subst h1 h2
    simp only[beq_self_eq_true,if_true]
    refine⟨m,Nat.le_refl _,?_⟩
    rw[xm rs (m+1) _ name fun q hq h1 h2=>hr ⟨q,hq,h1,h2⟩]
    simp
   ·exact absurd ⟨q,hq,h1,h2⟩ hr
theorem xW:∀{l:fC} {x:Str} {kd:NameKind},l.lookup x=some kd->∃q∈l,q.1=x/\q.2=kd
 |(a,b)::rs,x,kd,h=>by
  rw[List.lookup_cons] at h
  generalize hb:(x==a)=x0;induction x0 using cT with
  |true=>rw[hb] at h;replace h:=j6 h;subst h;exact⟨_,jk,(beq_iff_eq.mp hb).symm,rfl⟩
  |false=>rw[hb] at h;refine jH (xW h) fun q hq h1=> ?_;exact⟨q,qO _ hq,h1⟩
theorem jFa(N:Nat)(f:Str×Value->PUnit->Sem (ForInStep PUnit))(hf:∀x v u,f (x,v) u=(do storeName env x v;pure (.yield ⟨⟩)))
  (kind:env.scope.kind= .function) (cells:∀n,env.kindOf n=some .cell\/env.kindOf n=some .free->(env.cells.lookup n).isSome=true)
  (hN:N<=env.locals) (hNc:∀x c,env.kindOf x=some .cell->env.cells.lookup x=some c->N<=c) (binds:mL):∀(s:Shared) (dn:Str->Option Value) (Q:PUnit->Shared->Prop),dP env s.heap->(∀x∈binds,env.kindOf x.1=some .local\/env.kindOf x.1=some .cell)->(∀x v,dn x=some v->jt env s.heap x v)->
   (∀h' tk,s.toks<=tk->(∀b o,b<N->s.heap.get? b=some o->h'.get? b=some o)->dP env h'->(∀x v,(binds.reverse.lookup x).or (dn x)=some v->jt env h' x v)->Q ⟨⟩ { s with heap:=h',toks:=tk })->
   wpAny C.M A (forIn binds ⟨⟩ f) Q NE s:=by
 induction binds with
 |nil=>
  intro s dn Q fm _ hd hQ
  rw[List.forIn_nil]
  exact wpAny_pure (hQ s.heap s.toks nL (fun _ _ _ e=>e) fm fun x v h=>hd x v (by exact h))
 |cons q0 rs ih=>
  obtain⟨x,v⟩:=q0
  intro s dn Q fm hb hd hQ
  rw[List.forIn_cons,hf]
  refine wpAny_bind (wpAny_bind (vj kind cells fm (hb _ jk) fun h' tk a ht ha hs mZ hv hk=>wpAny_pure ?_))
  refine ih { s with heap:=h',toks:=tk } (fun y=>if y=x then some v else dn y) Q mZ (fun y hy=>hb y (qO _ hy)) (fun y u h=> ?_) (fun tZ tk' tP uH fm'' dD=> ?_)
  ·by_cases e:y=x
   ·subst e;simp at h;subst h;exact hv
   ·rw[if_neg e] at h;exact hk y u e (hd y u h)
  ·refine hQ tZ tk' (xJ ht tP) (fun b o fE e=>uH b o fE (hs.extBut b o ?_ e)) fm'' fun y u h=>dD y u ?_
   ·rcases ha with ha|⟨nW,bK⟩
    ·exact fun e=>absurd fE (Nat.not_lt.mpr (by rw[e,ha];exact hN))
    ·exact fun e=>absurd fE (Nat.not_lt.mpr (by rw[e];exact hNc x a nW bK))
   ·rw[List.reverse_cons,List.lookup_append] at h
    by_cases e:y=x
    ·subst e
     generalize h1:rs.reverse.lookup y=x0;induction x0 using cO with
     |some w=>rw[h1] at h;exact h
     |none=>rw[h1] at h;simpa using h
    ·have e':(y==x)=false:=by simpa using e
     generalize h1:rs.reverse.lookup y=x0;induction x0 using cO with
     |some w=>rw[h1] at h;exact h
     |none=>rw[h1] at h;simpa [List.lookup_cons,e',e] using h
theorem vE{scope:Scope}{globals:Addr}{closure:yV}{binds:mL}{qual:Str}{func:Option Addr}{code:Value}{around:Option Env}{builtins:Addr}{Q:Env->Shared->Prop}
  (kind:scope.kind= .function) (hb:∀x∈binds,scope.names.lookup x.1=some .local\/scope.names.lookup x.1=some .cell)
  (dh:∀x,scope.names.lookup x=some .free->(closure.lookup x).isSome=true)
  (xq:∀p∈closure,∃v,s.heap.IsCell p.2 v) (lx:closure.Pairwise fun x y=>x.2≠y.2)
  (hQ:∀env h' tk,env=newEnv scope s.heap.objs.size globals (cellsFrom (s.heap.objs.size+1) scope.names closure) qual func code around builtins->s.toks<=tk->(∀b o,s.heap.get? b=some o->h'.get? b=some o)->dP env h'->
   (∀x v,binds.reverse.lookup x=some v->jt env h' x v)->Q env { s with heap:=h',toks:=tk }):
  wpAny C.M A (newFunctionEnv scope globals closure binds qual func code around builtins) Q NE s:=by
 have main:∀(cls:Value) (env:Env),env=newEnv scope s.heap.objs.size globals (cellsFrom (s.heap.objs.size+1) scope.names closure) qual func code around builtins->
   env.scope=scope->env.locals=s.heap.objs.size->env.cells=cellsFrom (s.heap.objs.size+1) scope.names closure->
   ∀f:Str×Value->PUnit->Sem (ForInStep PUnit),(∀x v u,f (x,v) u=(do storeName env x v;pure (.yield ⟨⟩)))->
   wpAny C.M A (forIn binds ⟨⟩ f) (fun _ s'=>wpAny C.M A (pure env) Q NE s') NE { s with heap:=pushCells (s.heap.push { cls:=cls,data:= .dict #[] }) scope.names }:=by
  intro cls env he qJ hl hc f hf
  have dE:(s.heap.push { cls:=cls,data:= .dict #[] }).objs.size=s.heap.objs.size+1:=Heap.size_push ..
  have wf:=gN scope.names (s.heap.push { cls:=cls,data:= .dict #[] }) closure (fun p hp=>by
   obtain⟨v,hv⟩:=xq p hp
   exact⟨v,hv.keeps fun b o e=>wW _ e⟩) lx
  rw[dE] at wf
  refine jFa s.heap.objs.size f hf (by rw[qJ];exact kind) ?_ (by rw[hl];exact Nat.le_refl _) ?_ binds _ (fun _=>none) _ ⟨?_,?_,?_⟩ ?_ (fun x v h=>by exact zn h) ?_
  ·intro x hx
   rw[hc]
   refine xA _ _ _ _ ?_
   rcases hx with hx|hx
   ·left;rw[<-qJ];exact hx
   ·right;exact dh x (by rw[<-qJ];exact hx)
  ·intro x c hx h
   rw[hc] at h
   refine jH (jCx scope.names (s.heap.objs.size+1) closure x (xW (by rw[<-qJ];exact hx))) fun c' h1 h2=> ?_
   rw[h2] at h;replace h:=j6 h;subst h;(refine xJ ?_ (by assumption);simp+arith)
  ·rw[hl]
   exact⟨_,(Heap.Ns.new s.heap cls).keeps fun b o e=>pushCells_keeps _ _ b o e⟩
  ·rw[hc];exact wf.1
  ·rw[hc];exact wf.2.1
  ·intro x hx
   have:=hb x hx
   refine(?_:env.scope.names.lookup x.1=_\/env.scope.names.lookup x.1=_)
   rw[qJ];exact this
  ·intro h' tk ht hk fm hv
   exact wpAny_pure (hQ env h' tk he ht (fun b o e=>hk b o (Heap.lt_size e) (pushCells_keeps _ _ b o (wW _ e))) fm fun x v h=>hv x v (by simpa using h))
 induction around using cO with
 |none=>
  simp only[newFunctionEnv,Option.isSome_none,Bool.false_eq_true,if_false]
  refine wpAny_bind (wpAny_alloc (wpAny_bind (wpAny_layCells _ (fun _ _ _=>rfl) _ _ _ _ (wpAny_bind ?_))))
  rw[show ({ s with heap:=s.heap.push { cls:= .type "frame",data:= .dict #[] } }:Shared).heap.objs.size=s.heap.objs.size+1 from Heap.size_push ..]
  exact main (.type "frame") _ rfl rfl rfl rfl _ fun _ _ _=>rfl
 |some outer=>
  simp only[newFunctionEnv,Option.isSome_some,if_true]
  refine wpAny_bind (wpAny_alloc (wpAny_bind (wpAny_layCells _ (fun _ _ _=>rfl) _ _ _ _ (wpAny_bind ?_))))
  rw[show ({ s with heap:=s.heap.push { cls:= .type "dict",data:= .dict #[] } }:Shared).heap.objs.size=s.heap.objs.size+1 from Heap.size_push ..]
  exact main (.type "dict") _ rfl rfl rfl rfl _ fun _ _ _=>rfl
theorem ne{α:Type}{M:Model}{t:Sem α}{Q:α->Shared->Prop}(h:wpAny M A t Q NE s):wpAny M A t Q E s:=wpAny_mono h (fun _ _ x=>x) fun _ _ x=>x.elim
inductive gT (C:Cx) (A:Around) (Y:List Addr) (I:Addr) (ds:List D) (h:Heap):Prop
 |mk:∀fp n P St i,Walks C.prog C.w A I fp [I] n P St->St i h->i+ds.length=n->(((∀b∈fp,b=I\/b∉Y)/\∀b∈fp,∃o,h.get? b=some o))->((∀j h,St j h->∃o,h.get? I=some o/\(o.cls= .type "list_iterator"\/o.cls= .type "tuple_iterator"\/o.cls= .type "range_iterator")))->(∀j v,P (i+j) v->∀d,ds[j]? =some d->RD C h Y v d)->gT C A Y I ds h
variable{I:Addr}{ds:List D}
theorem yG{h h':Heap}(hk:∀b o,b∉Y->h.get? b=some o->h'.get? b=some o):∀a o,view h Y a=some o->view h' Y a=some o:=fun a o e=>by
 obtain⟨e,n⟩:=jM e
 exact jX (hk a o n e) n
theorem gT.obj{h:Heap}(x:gT C A Y I ds h):∃o,h.get? I=some o/\(o.cls= .type "list_iterator"\/o.cls= .type "tuple_iterator"\/o.cls= .type "range_iterator"):=by
 obtain⟨fp,m,P,St,i,W,st,hl,vJ,ho,hP⟩:=x
 exact ho i h st
theorem ye{h h':Heap}{Z:List Addr}(hk:∀b o,b∉Y->h.get? b=some o->h'.get? b=some o)(hn:∀b∈Z,h.get? b=none):∀a o,view h Y a=some o->view h' (Z++Y) a=some o:=fun a o e=>by
 obtain⟨e,n⟩:=jM e
 refine jX (hk a o n e) fun hm=> ?_
 rcases jq.mp hm with hm|hm
 ·rw[hn a hm] at e;exact zn e
 ·exact n hm
theorem gT.keep{h h':Heap}(x:gT C A Y I ds h)(hI:∀o,h.get? I=some o->h'.get? I=some o)(hk:∀b o,b∉Y->h.get? b=some o->h'.get? b=some o):gT C A Y I ds h':=by
 obtain⟨fp,m,P,St,i,W,st,hl,vJ,ho,hP⟩:=x
 have uH:∀b∈fp,∀o,h.get? b=some o->h'.get? b=some o:=fun b hb o e=>by
  rcases vJ.1 b hb with rfl|hb
  ·exact hI o e
  ·exact hk b o hb e
 exact⟨fp,m,P,St,i,W,W.frame i h h' st uH,hl,⟨vJ.1,fun b hb=>let ⟨o,e⟩:=vJ.2 b hb;⟨o,uH b hb o e⟩⟩,ho,fun j v hv d hd=>R.mono (yG hk) (hP j v hv d hd)⟩
theorem gT.more{h h':Heap}{Z:List Addr}(x:gT C A Y I ds h)(hZ:∀b∈Z,h.get? b=none)(hk:∀b o,h.get? b=some o->h'.get? b=some o):gT C A (Z++Y) I ds h':=by
 obtain⟨fp,m,P,St,i,W,st,hl,vJ,ho,hP⟩:=x
 refine⟨fp,m,P,St,i,W,W.frame i h h' st fun b _ o e=>hk b o e,hl,⟨fun b hb=> ?_,fun b hb=>let ⟨o,e⟩:=vJ.2 b hb;⟨o,hk b o e⟩⟩,ho,fun j v hv d hd=>R.mono (ye (fun b o _ e=>hk b o e) hZ) (hP j v hv d hd)⟩
 rcases vJ.1 b hb with e|e
 ·exact .inl e
 ·refine .inr fun hm=> ?_
  rcases jq.mp hm with hm|hm
  ·obtain⟨o,ho⟩:=vJ.2 b hb
   rw[hZ b hm] at ho;exact zn ho
  ·exact e hm
theorem gT.perm{h:Heap}{Y':List Addr}(x:gT C A Y I ds h)(hY:∀b,b∈Y'↔b∈Y):gT C A Y' I ds h:=by
 obtain⟨fp,m,P,St,i,W,st,hl,vJ,ho,hP⟩:=x
 refine⟨fp,m,P,St,i,W,st,hl,⟨fun b hb=> ?_,vJ.2⟩,ho,fun j v hv d hd=>R.mono (fun a o e=> ?_) (hP j v hv d hd)⟩
 ·rcases vJ.1 b hb with e|e
  ·exact .inl e
  ·exact .inr fun hm=>e ((hY b).mp hm)
 ·obtain⟨e,nn⟩:=jM e
  exact jX e fun hm=>nn ((hY a).mp hm)
theorem jD2{Q:Option Value->Shared->Prop}(x:gT C A Y I [] s.heap)(q:∀h' tk,s.toks<=tk->(∀b o,b≠I->s.heap.get? b=some o->h'.get? b=some o)->Q none { s with heap:=h',toks:=tk }):wpAny C.M A (pyNext (.ref I)) Q NE s:=by
 obtain⟨fp,m,P,St,i,W,st,hl,vJ,ho,hP⟩:=x
 have e:i=m:=by exact hl
 subst e
 exact yE (W.done s _ _ st fun h' tk hk ht=>q h' tk ht fun b o hb e=>hk b o (by simpa using hb) e)
theorem gu{d:D}{Q:Option Value->Shared->Prop}(hI:I∈Y)(x:gT C A Y I (d::ds) s.heap)(q:∀v h' tk,s.toks<=tk->(∀b o,b≠I->s.heap.get? b=some o->h'.get? b=some o)->gT C A Y I ds h'->RD C h' Y v d->Q (some v) { s with heap:=h',toks:=tk }):wpAny C.M A (pyNext (.ref I)) Q NE s:=by
 obtain⟨fp,m,P,St,i,W,st,hl,vJ,ho,hP⟩:=x
 simp only[List.length_cons] at hl
 refine yE (W.item i s _ _ (by lia) st fun v h' tk hv ck hk ht=> ?_)
 have uo:∀b o,b≠I->s.heap.get? b=some o->h'.get? b=some o:=fun b o hb e=>hk b o (by simpa using hb) e
 have hm:=yG (h:=s.heap) (h':=h') (Y:=Y) fun b o hb e=>uo b o (fun e'=>hb (e'▸hI)) e
 exact q v h' tk ht uo ⟨fp,m,P,St,i+1,W,ck,by lia,⟨vJ.1,fun b hb=>(by by_cases e:b=I;exact(ho (i+1) h' ck).elim fun o h=>⟨o,e▸h.1⟩;exact(vJ.2 b hb).elim fun o h=>⟨o,uo b o e h⟩)⟩,ho,fun j u hu d' yP=>R.mono hm (hP (j+1) u (by rw[show i+(j+1)=i+1+j by simp+arith only];exact hu) d' (by exact yP))⟩ (R.mono hm (hP 0 v (by exact hv) d rfl))
theorem jA5(x:gT C A Y I ds s.heap)(q:Q (.ref I) s):wpAny C.M A (pyIter (.ref I)) Q NE s:=by
 obtain⟨fp,m,P,St,i,W,st,hl,vJ,ho,hP⟩:=x
 exact W.self i s _ _ st q
set_option tactic.hygienic true in
theorem yL{d:D}(hh:A.handled=none)(hY:∀a∈Y,a<s.heap.objs.size)(hv:RD C s.heap Y v d)(h:ju d=some ds)
  (q:∀h',(∀b o,s.heap.get? b=some o->h'.get? b=some o)->gT C A (s.heap.objs.size::Y) s.heap.objs.size ds h'->Q (.ref s.heap.objs.size) { s with heap:=h' }):wpAny C.M A (pyIter v) Q NE s:=by
 have yY:∀o:Obj,∀b∈[s.heap.objs.size],s.heap.get? b=none:=fun o b hb=>by
  replace hb:=j4.mp hb;subst hb
  generalize e:s.heap.get? s.heap.objs.size=x0;induction x0 using cO with
  |none=>rfl
  |some o=>exact absurd (Heap.lt_size e) (Nat.lt_irrefl _)
 induction d using cD with
 |list l=>
  replace h:=j6 h;subst h
  refine jj hv.list_inv ?_;rintro a vs m rfl h1 r1
  have vF:=Heap.lt_size (jM h1).1
  refine wpAny_pyIter_list (jY h1) (q _ (fun b o e=>wW _ e) ?_)
  refine⟨_,_,_,_,0,Walks.list hh s.heap.objs.size a (Nat.ne_of_lt vF) vs.toArray,⟨⟨_,Heap.get?_push_size _ rfl,rfl,rfl⟩,(jY h1).push _⟩,by simp[r1.length],?_,?_,?_⟩
  ·refine⟨?_,fun b hb=> ?_⟩
   ·intro b hb
    simp at hb
    rcases hb with rfl|rfl
    ·exact .inl rfl
    ·refine .inr fun hm=> ?_
     rcases j0.mp hm with e|hm
     ·exact Nat.lt_irrefl _ (e▸vF)
     ·exact(jM h1).2 hm
   ·simp at hb
    rcases hb with rfl|rfl
    ·exact⟨_,Heap.get?_push_size _ rfl⟩
    ·exact⟨_,wW _ (jM h1).1⟩
  ·rintro j h ⟨⟨o,ho,hc,_⟩,_⟩;exact⟨o,ho,.inl hc⟩
  ·intro j v hv d hd
   have hv:vs[j]? =some v:=by simpa using hv
   refine jH (r1.getV hv) fun d' yP hr=> ?_
   rw[hd] at yP;replace yP:=j6 yP;subst yP
   exact R.mono (ye (Z:=[s.heap.objs.size]) (fun b o _ e=>wW _ e) (yY (jc [] 0))) hr
 |tup l=>
  replace h:=j6 h;subst h
  refine jj hv.tup_inv ?_;rintro a vs m rfl h1 r1
  have vF:=Heap.lt_size (jM h1).1
  refine wpAny_pyIter_tuple (jy h1) (q _ (fun b o e=>wW _ e) ?_)
  refine⟨_,_,_,_,0,Walks.tuple hh s.heap.objs.size a (Nat.ne_of_lt vF) vs.toArray,⟨⟨_,Heap.get?_push_size _ rfl,rfl,rfl⟩,(jy h1).push _⟩,by simp[r1.length],?_,?_,?_⟩
  ·refine⟨?_,fun b hb=> ?_⟩
   ·intro b hb
    simp at hb
    rcases hb with rfl|rfl
    ·exact .inl rfl
    ·refine .inr fun hm=> ?_
     rcases j0.mp hm with e|hm
     ·exact Nat.lt_irrefl _ (e▸vF)
     ·exact(jM h1).2 hm
   ·simp at hb
    rcases hb with rfl|rfl
    ·exact⟨_,Heap.get?_push_size _ rfl⟩
    ·exact⟨_,wW _ (jM h1).1⟩
  ·rintro j h ⟨⟨o,ho,hc,_⟩,_⟩;exact⟨o,ho,.inr (.inl hc)⟩
  ·intro j v hv d hd
   have hv:vs[j]? =some v:=by simpa using hv
   refine jH (r1.getV hv) fun d' yP hr=> ?_
   rw[hd] at yP;replace yP:=j6 yP;subst yP
   exact R.mono (ye (Z:=[s.heap.objs.size]) (fun b o _ e=>wW _ e) (yY (jc [] 0))) hr
 |rng a b=>
  replace h:(if small a&&small b&&decide (b - a<=1000) then some ((List.range (b - a).toNat).map fun(k:Nat)=>D.int (a+(k:Int))) else none)=some ds:=h
  revert h;refine yU (fun hs h=> ?_) (fun _ h=> ?_)
  ·replace h:=j6 h;subst h
   simp only[Bool.and_eq_true,decide_eq_true_eq] at hs
   have ha:=eG hs.1.1
   have hb:=eG hs.1.2
   refine ue hv.rng_inv ?_;rintro rr t u z rfl h1
   have hsize:Builtin.Range.rangeSize a b 1=((b - a).toNat:Int):=by
    unfold Builtin.Range.rangeSize;simp;split <;> lia
   refine wpAny_pyIter_range (jM h1).1 (small_one (Int.le_trans kD (Int.le_of_lt ha.1)) (Int.lt_trans ha.2 kD) (Int.le_trans kD (Int.le_of_lt hb.1)) (Int.lt_trans hb.2 kD)) (q _ (fun b o e=>wW _ e) ?_)
   ·refine⟨_,_,_,_,0,Walks.range hh s.heap.objs.size a 1 (b - a).toNat,?_,by simp,?_,?_,?_⟩
    ·rw[hsize]
     simp
     exact Heap.get?_push_size _ rfl
    ·refine⟨?_,fun b hb=> ?_⟩
     ·intro b hb
      replace hb:=j4.mp hb
      exact .inl hb
     ·replace hb:=j4.mp hb
      subst hb
      exact⟨_,Heap.get?_push_size _ rfl⟩
    ·intro j h ho;exact⟨_,ho,.inr (.inr rfl)⟩
    ·intro j v hv d hd
     obtain⟨t,rfl⟩:=hv
     simp only[List.getElem?_map] at hd
     generalize hj:(List.range (b - a).toNat)[j]? =x0;induction x0 using cO with
     |none=>rw[hj] at hd;cases hd
     |some i=>
      rw[hj] at hd;replace hd:=j6 hd;subst hd
      have:i=j:=by
       obtain⟨h1,h2⟩:=List.getElem?_eq_some_iff.mp hj
       simpa using h2.symm
      subst this
      simp
      exact .int _ _
  ·exact zn h
 |_=>exact zn h
noncomputable def g9(e:Expr)(depth:Nat)(acc:Value)(env:Env)(emit:Sem Unit):Option Comprehension->Sem Unit
 |some g'=>do
  let x<-eval g'.iter env
  standAt g'.iter.pos
  let x<-foldedSetIterable g'.iter env x
  let _<-runOwn (.compStart e (depth+1) (<-holding [x] (pyIter x)) acc env) env
 |none=>emit
noncomputable def ur(e:Expr)(gens:List Comprehension)(depth:Nat)(g:Comprehension)(it acc:Value)(env:Env)(emit:Sem Unit):Sem Fin:=do
 standAt g.iter.pos
 match<-pyNext it with
 |none=>pure (.done .next)
 |some v=>
  letOwnedTupleGo g.target it v
  assign g.target env v
  let mut ok:=true
  for c in g.ifs do
   if ok then ok<-isTrue c env (eval c env)
  if ok then g9 e depth acc env emit gens[depth+1]?
  again (.compLoop e depth it acc env)
theorem jG4{elt:Expr}{gens:List Comprehension}{jS:Scope}{pos:Pos}{depth:Nat}{g:Comprehension}{it acc:Value}(hd:gens[depth]? =some g)(ha:∀g∈gens,g.is_async=0):
  compTurn (.ListComp elt gens jS pos) depth it acc env=ur (.ListComp elt gens jS pos) gens depth g it acc env (do let _<-call (.builtin "list.append") [acc,<-eval elt env]):=by
 have h0:g.is_async=0:=ha g (List.mem_of_getElem? hd)
 unfold compTurn ur
 simp only[hd,h0]
 generalize h1:gens[depth+1]? =x0;induction x0 using cO with
 |none=>rfl
 |some g'=>
  have h2:g'.is_async=0:=ha g' (List.mem_of_getElem? h1)
  simp only[h2,g9,bne_self_eq_false,Bool.false_eq_true,if_false,bind_assoc,pure_bind]
  rfl
theorem jG5{ke ve:Expr}{gens:List Comprehension}{jS:Scope}{pos:Pos}{depth:Nat}{g:Comprehension}{it:Value}{d:Addr}(hd:gens[depth]? =some g)(ha:∀g∈gens,g.is_async=0):
  compTurn (.DictComp ke ve gens jS pos) depth it (.ref d) env=ur (.DictComp ke ve gens jS pos) gens depth g it (.ref d) env (do
   let kv<-eval ke env
   let vv<-holding [kv] (eval ve env)
   standAt { ke.pos with endLine:=ve.pos.endLine,endCol:=ve.pos.endCol }
   holding [kv,vv] (dictSet d kv vv)):=by
 have h0:g.is_async=0:=ha g (List.mem_of_getElem? hd)
 unfold compTurn ur
 simp only[hd,h0]
 generalize h1:gens[depth+1]? =x0;induction x0 using cO with
 |none=>rfl
 |some g'=>
  have h2:g'.is_async=0:=ha g' (List.mem_of_getElem? h1)
  simp only[h2,g9,bne_self_eq_false,Bool.false_eq_true,if_false,bind_assoc,pure_bind]
  rfl
structure vW(e:Expr)(gens:List Comprehension)(acc:Value)(emit:Env->Sem Unit):Prop where
 cl:clausesOf e=gens
 turn:∀depth g it env,gens[depth]? =some g->compTurn e depth it acc env=ur e gens depth g it acc env (emit env)
 loop:∀(A:Around) depth it env,A.under (.compLoop e depth it acc env)=A
 start:∀(A:Around) depth it env,A.under (.compStart e depth it acc env)=A
 denL:∀depth it env,denote table (.compLoop e depth it acc env)=(compTurn e depth it acc env).onRaise (fun x=>do noteFrame x env;theTreesLotGoes x)
 denS:∀depth it env,denote table (.compStart e depth it acc env)=(compStart e depth it acc env).onRaise (fun x=>do noteFrame x env;standAt theWindowsPlace)
 sync:∀g∈gens,g.is_async=0
theorem vk{elt:Expr}{gens:List Comprehension}{jS:Scope}{pos:Pos}{acc:Value}(ha:∀g∈gens,g.is_async=0):
  vW (.ListComp elt gens jS pos) gens acc (fun env=>do let _<-call (.builtin "list.append") [acc,<-eval elt env]):=
 ⟨rfl,fun _ _ _ _ hd=>jG4 hd ha,fun _ _ _ _=>Around.under_of_weight rfl,fun _ _ _ _=>Around.under_of_weight rfl,fun _ _ _=>rfl,fun _ _ _=>rfl,ha⟩
theorem jE1{ke ve:Expr}{gens:List Comprehension}{jS:Scope}{pos:Pos}{d:Addr}(ha:∀g∈gens,g.is_async=0):
  vW (.DictComp ke ve gens jS pos) gens (.ref d) (fun env=>do
   let kv<-eval ke env
   let vv<-holding [kv] (eval ve env)
   standAt { ke.pos with endLine:=ve.pos.endLine,endCol:=ve.pos.endCol }
   holding [kv,vv] (dictSet d kv vv)):=
 ⟨rfl,fun _ _ _ _ hd=>jG5 hd ha,fun _ _ _ _=>Around.under_of_weight rfl,fun _ _ _ _=>Around.under_of_weight rfl,fun _ _ _=>rfl,fun _ _ _=>rfl,ha⟩
variable{e:Expr}{gens:List Comprehension}{acc:Value}{emit:Env->Sem Unit}{R:Result->Shared->Prop}
theorem jA4{depth:Nat}{it:Value}{g:Comprehension}(H:vW e gens acc emit)(hd:gens[depth]? =some g)
  (h0:codeAny C.M A (.compLoop e depth it acc env) R s) (h:wpAny C.M A (pyIter it) (fun cz s'=>codeAny C.M A (.compLoop e depth cz acc env) R s') NE s):
  codeAny C.M A (.compStart e depth it acc env) R s:=by
 have h0':g.is_async=0:=H.sync g (List.mem_of_getElem? hd)
 refine codeAny_of_tree ?_
 rw[H.start,show C.M.den (.compStart e depth it acc env)=denote table (.compStart e depth it acc env) from rfl,H.denS]
 refine wpAny_notedAt ?_
 have xq:(clausesOf e)[depth]? =some g:=by rw[H.cl];exact hd
 unfold compStart
 simp only[xq,Option.elim_some,h0',bne_self_eq_false,Bool.false_eq_true,if_false]
 refine wpAny_bind (wpAny_askSetting (wpAny_ite ?_))
 split
 ·exact wpAny_pure (And.intro rfl h0)
 ·exact wpAny_bind (wpAny_rule (wpAny_bind (wpAny_standAt (wpAny_bind (wpAny_mono h (fun cz s' h'=>wpAny_pure (And.intro rfl h')) fun _ _ x=>x.elim)))))
theorem jHt{depth:Nat}{it:Value}{g:Comprehension}(H:vW e gens acc emit)(hd:gens[depth]? =some g)(J:Nat->Shared->Prop)
  (turn:∀n s,J n s->wpAny C.M A (pyNext it) (fun r s₁=>match r with
   |none=>R (.ok .next) s₁
   |some v=>wpAny C.M A (letOwnedTupleGo g.target it v) (fun _ s₁'=>wpAny C.M A (assign g.target env v) (fun _ s₂=>
     wpAny C.M A (forIn g.ifs true fun c r=>if r=true then do let ok<-isTrue c env (eval c env);pure (ForInStep.yield ok) else pure (ForInStep.yield r)) (fun ok s₃=>
      if ok=true then wpAny C.M A (g9 e depth acc env (emit env) gens[depth+1]?) (fun _ s₄=>∃m,m<n/\J m s₄) NE s₃ else∃m,m<n/\J m s₃) NE s₂) NE s₁') NE s₁) NE s)
  (n:Nat) (h:J n s):codeAny C.M A (.compLoop e depth it acc env) R s:=by
 refine codeAny_loop rfl J (fun n s hJ=> ?_) n h
 rw[H.loop,show C.M.den (.compLoop e depth it acc env)=denote table (.compLoop e depth it acc env) from rfl,H.denL,H.turn depth g it env hd]
 refine wpAny_noted ?_
 unfold ur
 refine wpAny_bind (wpAny_standAt (wpAny_bind (wpAny_mono (turn n s hJ) (fun r s₁ h₁=> ?_) fun _ _ x=>x.elim)))
 induction r using cO with
 |none=>exact wpAny_pure h₁
 |some v=>
  refine wpAny_bind (wpAny_mono h₁ (fun _ s₁' h₁'=>wpAny_bind (wpAny_mono h₁' (fun _ s₂ h₂=>wpAny_bind (wpAny_mono h₂ (fun ok s₃ h₃=> ?_) fun _ _ x=>x.elim)) fun _ _ x=>x.elim)) fun _ _ x=>x.elim)
  induction ok using cT with
  |false=>
   simp only[Bool.false_eq_true,if_false] at h₃ ⊢
   exact wpAny_pure ⟨rfl,h₃⟩
  |true=>
   simp only[if_true] at h₃ ⊢
   exact wpAny_bind (wpAny_mono h₃ (fun _ s₄ h₄=>wpAny_pure ⟨rfl,h₄⟩) fun _ _ x=>x.elim)
inductive KW (C:Cx) (Z:Addr->Prop) (s s':Shared):Prop
 |mk:∀h' tk,s'={ s with heap:=h',toks:=tk }->s.toks<=tk->((∀b o,b≠C.P->¬Z b->s.heap.get? b=some o->h'.get? b=some o))->((∀b,b≠C.P->(∃o,s.heap.get? b=some o)->∃o,h'.get? b=some o))->qX C s.heap h'->KW C Z s s'
variable{W:List Addr}{s' gS:Shared}{Z Z':Addr->Prop}
theorem KP.kw(x:KP C s s'):KW C Z s s':=by
 obtain⟨h1,t1,rfl,l1,k1,b1⟩:=x
 exact⟨h1,t1,rfl,l1,fun b o hb _ e=>k1 b o hb e,fun b hb ⟨o,e⟩=>⟨o,k1 b o hb e⟩,b1⟩
theorem KW.mono(x:KW C Z s s')(h:∀b,Z b->Z' b):KW C Z' s s':=by
 obtain⟨h1,t1,rfl,l1,k1,e1,b1⟩:=x
 exact⟨h1,t1,rfl,l1,fun b o hb hz e=>k1 b o hb (fun z=>hz (h b z)) e,e1,b1⟩
theorem KW.refl(s:Shared):KW C Z s s:=(KP.refl s).kw
theorem KW.heap(x:KW C Z s s'){b:Addr}{o:Obj}(hb:b≠C.P)(hz:¬Z b)(e:s.heap.get? b=some o):s'.heap.get? b=some o:=by
 obtain⟨h1,t1,rfl,l1,k1,e1,b1⟩:=x
 exact k1 b o hb hz e
theorem KW.tabTo(x:KW C Z s s'):qX C s.heap s'.heap:=by
 obtain⟨h1,t1,rfl,l1,k1,e1,b1⟩:=x
 exact b1
theorem KW.toks(x:KW C Z s s'):s.toks<=s'.toks:=by
 obtain⟨h1,t1,rfl,l1,k1,e1,b1⟩:=x
 exact l1
theorem KW.exs(x:KW C Z s s')(t:jl C s.heap){a:Addr}(h:∃o,s.heap.get? a=some o):∃o,s'.heap.get? a=some o:=by
 by_cases hb:a=C.P
 ·subst hb
  obtain⟨ps,h1,_⟩:=(x.tabTo t).1
  exact⟨_,h1⟩
 ·obtain⟨h1,t1,rfl,l1,k1,e1,b1⟩:=x
  exact e1 a hb h
theorem qX.trans{h1 h2 h3:Heap}(x:qX C h1 h2)(y:qX C h2 h3)(e:jl C h1->∀b,(∃o,h1.get? b=some o)->∃o,h2.get? b=some o):qX C h1 h3:=fun z=>by
 refine⟨(y (x z).1).1,fun c hc=> ?_⟩
 rcases (y (x z).1).2 c hc with h|h
 ·exact(x z).2 c h
 ·refine .inr (none_of fun hs=> ?_)
  obtain⟨o,ho⟩:=e z c hs
  rw[h] at ho;exact zn ho
theorem KW.trans(x:KW C Z s s')(y:KW C Z s' gS):KW C Z s gS:=by
 have x':=x
 obtain⟨h1,t1,rfl,l1,k1,e1,b1⟩:=x
 obtain⟨h2,t2,rfl,l2,k2,e2,b2⟩:=y
 exact⟨h2,t2,rfl,xJ l1 l2,fun b o hb hz e=>k2 b o hb hz (k1 b o hb hz e),fun b hb h=>e2 b hb (e1 b hb h),b1.trans b2 fun t b h=>x'.exs t h⟩
theorem qX.one{h h':Heap}{a:Addr}(ha:a≠C.P)(hc:¬jx C h a)(k:∀b o,b≠a->h.get? b=some o->h'.get? b=some o):qX C h h':=fun x=>by
 obtain⟨ps,h1,h2,h3⟩:=x
 have h1':=k _ _ (Ne.symm ha) h1
 refine⟨⟨ps,h1',h2,fun pos cv e=> ?_⟩,fun c hc'=> ?_⟩
 ·refine oN (h3 pos cv e) ?_;rintro c o vs t rfl ho hd
  exact⟨c,o,vs,t,rfl,k _ _ (fun e'=>hc ⟨ps,pos,h1,e'▸e⟩) ho,hd⟩
 ·refine qU hc' fun tA pos e1 e2=> ?_;clear hc'
  rw[h1'] at e1;cases e1
  exact .inl ⟨ps,pos,h1,e2⟩
theorem KW.one{h':Heap}{tk:Nat}{a:Addr}(ht:s.toks<=tk)(hZ:Z a)(ha:a≠C.P)(hc:¬jx C s.heap a)(k:∀b o,b≠a->s.heap.get? b=some o->h'.get? b=some o)(ho:∃o,h'.get? a=some o):KW C Z s { s with heap:=h',toks:=tk }:=by
 refine⟨h',tk,rfl,ht,fun b o hb hz e=>k b o (fun e'=>hz (e'▸hZ)) e,fun b hb ⟨o,e⟩=> ?_,.one ha hc k⟩
 by_cases e':b=a
 ·exact e'▸ho
 ·exact⟨o,k b o e' e⟩
theorem KW.code(x:KW C Z s s')(t:jl C s.heap){a:Addr}(ho:∃o,s.heap.get? a=some o)(h:¬jx C s.heap a):¬jx C s'.heap a:=fun hc=>by
 rcases (x.tabTo t).2 a hc with h'|h'
 ·exact h h'
 ·obtain⟨o,e⟩:=ho
  rw[h'] at e;exact zn e
theorem Gr.kw(Bs:Base C)(g:Gr C s)(x:KW C Z s s')(hZ:∀b,Z b->C.g0.get? b=none):Gr C s':=
 ⟨fun b o e=>x.heap (fun hb=>by rw[hb,Bs.hP] at e;exact zn e) (fun z=>by rw[hZ b z] at e;exact zn e) (g.keep b o e),(x.tabTo g.tab).1,fun e=>Nat.lt_of_lt_of_le (g.toks e) x.toks⟩
theorem RD.kw{d:D}(x:KW C Z s s')(hP:C.P∈Y)(hZ:∀b,Z b->b∈Y)(h:RD C s.heap Y v d):RD C s'.heap Y v d:=
 R.mono (fun a o e=>by
  obtain⟨e,n⟩:=jM e
  exact jX (x.heap (fun h=>n (h▸hP)) (fun z=>n (hZ a z)) e) n) h
theorem q5.kw{v:List Value}{d:List D}(x:KW C Z s s')(hP:C.P∈Y)(hZ:∀b,Z b->b∈Y)(h:q5 C s.heap Y v d):q5 C s'.heap Y v d:=
 Rs.mono (fun a o e=>by
  obtain⟨e,n⟩:=jM e
  exact jX (x.heap (fun h=>n (h▸hP)) (fun z=>n (hZ a z)) e) n) h
theorem jt.kw{x:Str}(t:jl C s.heap)(w:KW C Z s s')(hl:¬Z env.locals)(hc:∀p∈env.cells,¬Z p.2)(a:jt env s.heap x v):jt env s'.heap x v:=by
 rcases a with ⟨hk,m,hn,hm⟩|⟨hk,c,xq,hv⟩
 ·exact .inl ⟨hk,m,hn.at fun o e=>w.heap (jg t hn) hl e,hm⟩
 ·refine jH (id hv) fun o ho hd=> ?_
  exact .inr ⟨hk,c,xq,o,w.heap (qN t hv) (hc _ (mem_of_lookup xq)) ho,hd⟩
theorem dP.kw(t:jl C s.heap)(w:KW C Z s s')(hl:¬Z env.locals)(hc:∀p∈env.cells,¬Z p.2)(f:dP env s.heap):dP env s'.heap:=by
 obtain⟨⟨m,hn⟩,xq,ha⟩:=f
 refine⟨⟨m,hn.at fun o e=>w.heap (jg t hn) hl e⟩,fun p hp=> ?_,ha⟩
 obtain⟨v,hv⟩:=xq p hp
 refine jH (id hv) fun o ho hd=> ?_
 exact⟨v,o,w.heap (qN t hv) (hc p hp) ho,hd⟩
theorem Pre.kw(p:Pre C n k A env Y l s)(x:KW C Z s s')(hZ:∀b,Z b->b∈Y)(hl:¬Z env.locals)(hc:∀p∈env.cells,¬Z p.2):Pre C n k A env Y l s':=
 ⟨p.bs,p.a,p.eo,p.gr.kw p.bs x fun b z=>p.hY b (hZ b z),p.hP,p.hY,fun a ha=>x.exs p.gr.tab (p.hYs a ha),p.fm.kw p.gr.tab x hl hc,p.hc,fun y d hy=>by
  refine jH (p.loc y d hy) fun v a rv=> ?_
  exact⟨v,a.kw p.gr.tab x hl hc,rv.kw x p.hP hZ⟩⟩
structure Own(C:Cx)(W:List Addr)(h:Heap):Prop where
 ne:∀a∈W,a≠C.P
 code:∀a∈W,¬jx C h a
 ex:∀a∈W,∃o,h.get? a=some o
theorem Own.kw(o:Own C W s.heap)(t:jl C s.heap)(x:KW C Z s s'):Own C W s'.heap:=
 ⟨o.ne,fun a ha=>x.code t (o.ex a ha) (o.code a ha),fun a ha=>x.exs t (o.ex a ha)⟩
theorem oz{x:Str}{d:D}{Q:Unit->Shared->Prop}(p:Pre C n k A env Y l s)(o:Own C W s.heap)(hx:env.kindOf x=some .local\/env.kindOf x=some .cell)(hW:env.locals∈W)
  (il:∀c,env.kindOf x=some .cell->env.cells.lookup x=some c->c∈W) (u6:∀a∈W,a∈Y) (hv:RD C s.heap Y v d) (q:∀s',KW C (·∈W) s s'->Pre C n k A env Y (jA l x d) s'->Q () s'):
  wpAny C.M A (storeName env x v) Q NE s:=by
 refine vj p.eo.kind p.eo.cells p.fm hx fun h' tk a ht ha hs mZ dD uo=> ?_
 have tU:a∈W:=by
  rcases ha with rfl|⟨h1,h2⟩
  ·exact hW
  ·exact il a h1 h2
 have vF:∃o,h'.get? a=some o:=by
  rcases ha with rfl|⟨h1,h2⟩
  ·refine ue mZ.ns fun m o es ep ho _=> ?_
   exact⟨o,ho⟩
  ·refine qU (mZ.cl _ (mem_of_lookup h2)) fun v o ho _=> ?_
   exact⟨o,ho⟩
 have kw:KW C (·∈W) s { s with heap:=h',toks:=tk }:=KW.one ht tU (o.ne a tU) (o.code a tU) (fun b o hb e=>by rw[hs.2 b hb];exact e) vF
 refine q _ kw ⟨p.bs,p.a,p.eo,p.gr.kw p.bs kw fun b z=>p.hY b (u6 b z),p.hP,p.hY,fun a ha=>kw.exs p.gr.tab (p.hYs a ha),mZ,p.hc,fun y d' hy=> ?_⟩
 unfold jA at hy
 revert hy;refine yU (fun e hy=> ?_) fun e hy=> ?_
 ·subst e;replace hy:=j6 hy;subst hy
  exact⟨v,dD,hv.kw kw p.hP u6⟩
 ·refine jH (p.loc y d' hy) fun u hu ru=> ?_
  exact⟨u,uo y u e hu,ru.kw kw p.hP u6⟩
def pU(env:Env)(W:List Addr)(t:Expr):Prop:=∀x∈xh t,(env.kindOf x=some .local\/env.kindOf x=some .cell)/\∀c,env.kindOf x=some .cell->env.cells.lookup x=some c->c∈W
theorem yn{x:Str}(h:nameE? e=some x):∃p,e= .Name x p:=by
 induction e using cE with
 |Name y p=>exact⟨p,by rw[j6 h]⟩
 |_=>exact nn h
theorem gI{α β:Type}{as:List α}{k2:α->α->Option β}{d:β}(h:zR as (fun _=>none) k2=some d):∃a b,as=[a,b]/\k2 a b=some d:=by
 induction as using cL with
 |nil=>exact nn h
 |cons a as=>
  induction as using cL with
  |nil=>exact nn h
  |cons b as=>
   induction as using cL with
   |nil=>exact⟨a,b,rfl,h⟩
   |cons _ _=>exact nn h
theorem uQ{β:Type}{d:D}{k:D->D->Option β}{z:β}(h:oD d k=some z):∃a b,d= .tup [a,b]/\k a b=some z:=by
 induction d using cD with
 |tup l=>
  refine qU (gI (show zR l (fun _=>none) k=some z from h)) ?_;rintro a b rfl h
  exact⟨a,b,rfl,h⟩
 |_=>exact nn h
theorem gm{P:Expr->List Str->Prop}{t:Expr}(h0:∀t,P t [])(h1:∀x p,P (.Name x p) [x])(h2:∀x p y q c z,P (.Tuple [.Name x p,.Name y q] c z) [x,y]):P t (xh t):=by
 induction t using cE with
 |Name x p=>exact h1 x p
 |Tuple es c z=>
  refine(?_:P _ (Option.getD _ _))
  generalize h:(zR es (fun _=>none) fun a b=>(nameE? a).bind fun x=>(nameE? b).map fun y=>[x,y])=x0;induction x0 using cO with
  |none=>exact h0 _
  |some ns=>
   refine qU (gI h) ?_;rintro a b rfl h3
   refine bE h3 fun x ha h4=> ?_
   refine mE h4 ?_;rintro y hb rfl
   clear h h3 h4
   obtain⟨p,rfl⟩:=yn ha
   obtain⟨q,rfl⟩:=yn hb
   exact h2 x p y q c z
 |_=>exact h0 _
variable{l':Loc}
theorem Pre.weak(p:Pre C n k A env Y l' s)(h:∀x d,l x=some d->l' x=some d):Pre C n k A env Y l s:=
 ⟨p.bs,p.a,p.eo,p.gr,p.hP,p.hY,p.hYs,p.fm,p.hc,fun x d e=>p.loc x d (h x d e)⟩
theorem jh{h:Heap}{Y':List Addr}(hs:∀a∈Y,a∈Y'):∀a o,view h Y' a=some o->view h Y a=some o:=fun a o e=>by
 obtain⟨e,n⟩:=jM e
 exact jX e fun hm=>n (hs a hm)
theorem RD.more{h h':Heap}{I:Addr}{d:D}(hn:h.get? I=none)(hk:∀b o,h.get? b=some o->h'.get? b=some o)(x:RD C h Y v d):RD C h' (I::Y) v d:=
 R.mono (ye (Z:=[I]) (fun b o _ e=>hk b o e) fun b hb=>by replace hb:=j4.mp hb;subst hb;exact hn) x
theorem Pre.more{I:Addr}{h':Heap}{tk:Nat}(p:Pre C n k A env Y l s)(hn:s.heap.get? I=none)(ht:s.toks<=tk)(hk:∀b o,s.heap.get? b=some o->h'.get? b=some o)(hI:∃o,h'.get? I=some o):Pre C n k A env (I::Y) l { s with heap:=h',toks:=tk }:=by
 have kp:KP C s { s with heap:=h',toks:=tk }:=KP.of ht hk
 have p':=p.kp kp
 refine⟨p.bs,p.a,p.eo,p'.gr,qO _ p.hP,fun a ha=> ?_,fun a ha=> ?_,p'.fm,fun q hq=>qO _ (p.hc q hq),fun x d e=> ?_⟩
 ·rcases j0.mp ha with rfl|ha
  ·exact none_of fun⟨o,ho⟩=>by rw[p.gr.keep _ o ho] at hn;cases hn
  ·exact p.hY a ha
 ·rcases j0.mp ha with rfl|ha
  ·exact hI
  ·exact p'.hYs a ha
 ·refine jH (p.loc x d e) fun v a rv=> ?_
  exact⟨v,a.kp p.gr.tab kp,rv.more hn hk⟩
theorem o7{x y:Str}{a e:D}(hn:¬(l x).isSome=true)(h:l y=some e){l2:Loc}(h2:l2 y=some e):jA l2 x a y=some e:=by
 unfold jA
 rw[if_neg fun e'=>hn (by rw[<-e',h];rfl)]
 exact h2
theorem jEh{t:Expr}{d:D}(h:wU l t d=some l'):∀x e,l x=some e->l' x=some e:=by
 unfold wU at h
 generalize xh t=ns at h
 intro x e hx
 induction ns using cL with
 |nil=>exact nn h
 |cons y r=>
  induction r using cL with
  |nil=>
   replace h:(if (l y).isSome=true then none else some (jA l y d))=some l':=h
   revert h;refine yU (fun _ h=> ?_) fun hn h=> ?_
   ·exact nn h
   ·rw[<-j6 h]
    exact o7 hn hx hx
  |cons z r=>
   refine qU (uQ (show (oD d fun a b=>if (l y).isSome=true\/(l z).isSome=true then none else some (jA (jA l y a) z b))=some l' from h)) ?_;rintro a b rfl h2
   revert h2;refine yU (fun _ h2=> ?_) fun hn h2=> ?_
   ·exact nn h2
   ·rw[not_or] at hn
    rw[<-j6 h2]
    exact o7 hn.2 hx (o7 hn.1 hx hx)
theorem jFb{t:Expr}{d:D}{Q:Unit->Shared->Prop}(p:Pre C n k A env Y l s)(o:Own C W s.heap)(hT:pU env W t)(hW:env.locals∈W)(u6:∀a∈W,a∈Y)(hv:RD C s.heap Y v d)(hb:wU l t d=some l')
  (q:∀s',KW C (·∈W) s s'->Pre C n k A env Y l' s'->Q () s'):wpAny C.M A (assign t env v) Q NE s:=by
 refine gm (P:=fun t ns=>(∀x∈ns,(env.kindOf x=some .local\/env.kindOf x=some .cell)/\∀c,env.kindOf x=some .cell->env.cells.lookup x=some c->c∈W)->cn ns none (fun x=>if (l x).isSome=true then none else some (jA l x d)) (fun x y=>oD d fun a b=>if (l x).isSome=true\/(l y).isSome=true then none else some (jA (jA l x a) y b))=some l'->wpAny C.M A (assign t env v) Q NE s) (fun _ _ h=>nn h) (fun x p0 hT h=> ?_) (fun x p0 y q0 c0 z0 hT h=> ?_) hT hb
 ·replace h:(if (l x).isSome=true then none else some (jA l x d))=some l':=h
  revert h;refine yU (fun _ h=> ?_) fun _ h=> ?_
  ·exact nn h
  ·obtain⟨h1,h2⟩:=hT x x9
   exact wpAny_assign_Name (oz p o h1 hW h2 u6 hv (j6 h▸q))
 ·refine qU (uQ (show (oD d fun a b=>if (l x).isSome=true\/(l y).isSome=true then none else some (jA (jA l x a) y b))=some l' from h)) ?_;rintro a b rfl g
  revert g;refine yU (fun _ g=> ?_) fun _ g=> ?_
  ·exact nn g
  ·rw[<-j6 g] at q
   obtain⟨h1,h2⟩:=hT x x9
   obtain⟨h3,h4⟩:=hT y kK
   refine jj hv.tup_inv ?_;rintro t vs m rfl ho rs
   refine zB ((q5.kp (KP.refl s) p.hP rs).un2) ?_;rintro u1 u2 rfl r1 r2
   refine wpAny_assign_Tuple p.a.handled (jy ho) rfl rfl fun h' hk=> ?_
   have kp:KP C s { s with heap:=h' }:=KP.of nL fun b o e=>hk b o (fun e'=>Nat.lt_irrefl _ (e'▸Heap.lt_size e)) e
   have p':=p.kp kp
   have r1:=RD.kp kp p.hP r1
   have r2:=RD.kp kp p.hP r2
   refine assignInOrder_cons (wpAny_assign_Name (oz (l:=l) p' (o.kw p.gr.tab kp.kw (Z:=fun _=>False)) h1 hW h2 u6 r1 fun s1 gR p1=> ?_))
   refine assignInOrder_cons (wpAny_assign_Name (oz p1 ((o.kw p.gr.tab kp.kw (Z:=fun _=>False)).kw p'.gr.tab gR) h3 hW h4 u6 (RD.kw gR p.hP u6 r2) fun s2 z5 p2=> ?_))
   exact assignInOrder_nil (q s2 ((KP.kw kp).trans (gR.trans z5)) p2)
theorem jAt{t:Expr}{Q:Unit->Shared->Prop}(hI:∃o,s.heap.get? I=some o/\(o.cls= .type "list_iterator"\/o.cls= .type "tuple_iterator"\/o.cls= .type "range_iterator"))(q:Q () s):
  wpAny C.M A (letOwnedTupleGo t (.ref I) v) Q NE s:=by
 refine jH hI fun o ho hc=> ?_;clear hI
 have main:wpAny C.M A (do
  let (.ref r,.ref a):=((Value.ref I),v)|return
  let o<-load r
  match o.cls,o.data with
  | .type n,.fields vs=>
    if ["enumerate","zip","dict_itemiterator","dict_reverseitemiterator","odict_iterator","itertools.zip_longest","itertools.pairwise"].contains n&&vs[0]? ==some (rawInt a) then
     rule "for.unpacks-the-owned-tuple"
     updateField r 0 .none
  |_,_=>pure ()) Q NE s:=by
  induction v using cV with
  |ref a=>
   refine wpAny_bind (wpAny_load ho ?_)
   rcases hc with hc|hc|hc <;> rw[hc] <;> cases hd:o.data <;> exact wpAny_pure q
  |_=>exact wpAny_pure q
 induction t using cE with
 |Tuple _ _ _=>exact main
 |List _ _=>exact main
 |_=>exact wpAny_pure q
structure uF(DD:Addr)(Acc:List Addr->Heap->List D->Prop):Prop where
 frame:∀Y h h' a0,Acc Y h a0->(∀o,h.get? DD=some o->h'.get? DD=some o)->(∀b o,b∉Y->h.get? b=some o->h'.get? b=some o)->Acc Y h' a0
 more:∀Y h h' a0 I,Acc Y h a0->h.get? I=none->(∀b o,h.get? b=some o->h'.get? b=some o)->Acc (I::Y) h' a0
 sub:∀Y Y' h a0,(∀b∈Y',b∈Y)->Acc Y h a0->Acc Y' h a0
def gi(C:Cx)(n:Nat)(k:Bool)(A:Around)(env:Env)(DD:Addr)(Acc:List Addr->Heap->List D->Prop)(emitD:Loc->Option D)(emit:Sem Unit):Prop:=
 ∀Y l d s a0 (Q:Unit->Shared->Prop),emitD l=some d->Pre C n k A env Y l s->Own C [DD] s.heap->DD∈Y->Acc Y s.heap a0->a0.length<lim->(∀s',KW C (·=DD) s s'->Acc Y s'.heap (a0++[d])->Q () s')->wpAny C.M A emit Q NE s
variable{DD:Addr}{Acc:List Addr->Heap->List D->Prop}{emitD:Loc->Option D}
theorem uF.kw(a:uF DD Acc){a0:List D}(x:KW C Z s s')(hP:C.P∈Y)(hZ:∀b,Z b->b∈Y)(hD:¬Z DD)(hDP:DD≠C.P)(h:Acc Y s.heap a0):Acc Y s'.heap a0:=
 a.frame Y _ _ a0 h (fun o e=>x.heap hDP hD e) fun b o hb e=>x.heap (fun e'=>hb (e'▸hP)) (fun z=>hb (hZ b z)) e
theorem gT.kw(i:gT C A Y I ds s.heap)(x:KW C Z s s')(hP:C.P∈Y)(hZ:∀b,Z b->b∈Y)(hI:¬Z I)(tW:I≠C.P):gT C A Y I ds s'.heap:=
 i.keep (fun o e=>x.heap tW hI e) fun b o hb e=>x.heap (fun e'=>hb (e'▸hP)) (fun z=>hb (hZ b z)) e
theorem jB2(S:SE C n r)(a1:yW (n+1) A){ts:List Expr}{b:Bool}{Q:Bool->Shared->Prop}(p:Pre C n k A env Y l s)(h:xK r k env.scope l ts=some b)(q:∀s',KP C s s'->Pre C n k A env Y l s'->Q b s'):
  wpAny C.M A (forIn ts true fun c r=>if r=true then do let ok<-isTrue c env (eval c env);pure (ForInStep.yield ok) else pure (ForInStep.yield r)) Q NE s:=by
 induction ts using cL with
 |nil=>(replace h:=j6 h;subst h);exact wpAny_tests_nil (q s (KP.refl s) p)
 |cons e es=>
  induction es using cL with
  |nil=>exact wpAny_tests_one (gQ S a1 4 p h q)
  |cons _ _=>exact nn h
inductive KL (C:Cx) (I:Addr) (Z:Addr->Prop) (s s':Shared):Prop
 |mk:∀h' tk,s'={ s with heap:=h',toks:=tk }->s.toks<=tk->((∀b o,b≠C.P->¬Z b->s.heap.get? b=some o->h'.get? b=some o))->((∀b,b≠C.P->b≠I->(∃o,s.heap.get? b=some o)->∃o,h'.get? b=some o))->qX C s.heap h'->KL C I Z s s'
theorem KL.one{h':Heap}{tk:Nat}(ht:s.toks<=tk)(ha:I≠C.P)(hc:¬jx C s.heap I)(k:∀b o,b≠I->s.heap.get? b=some o->h'.get? b=some o):KL C I (·=I) s { s with heap:=h',toks:=tk }:=
 ⟨h',tk,rfl,ht,fun b o _ hz e=>k b o hz e,fun b _ hb ⟨o,e⟩=>⟨o,k b o hb e⟩,.one ha hc k⟩
theorem KW.last(x:KW C Z s s')(y:KL C I Z' s' gS)(h:∀b,Z' b->Z b):KL C I Z s gS:=by
 have x':=x
 obtain⟨h1,t1,rfl,l1,k1,e1,b1⟩:=x
 obtain⟨h2,t2,rfl,l2,k2,e2,b2⟩:=y
 exact⟨h2,t2,rfl,xJ l1 l2,fun b o hb hz e=>k2 b o hb (fun z=>hz (h b z)) (k1 b o hb hz e),fun b hb hi ho=>e2 b hb hi (e1 b hb ho),b1.trans b2 fun t b h=>x'.exs t h⟩
theorem KW.lastNew(x:KW C Z s s')(hI:s.heap.get? I=none)(y:KL C I Z' s' gS)(h:∀b,Z' b->b=I\/Z b):KW C Z s gS:=by
 have x':=x
 obtain⟨h1,t1,rfl,l1,k1,e1,b1⟩:=x
 obtain⟨h2,t2,rfl,l2,k2,e2,b2⟩:=y
 have ne:∀b o,s.heap.get? b=some o->b≠I:=fun b o e e'=>by rw[e',hI] at e;exact zn e
 exact⟨h2,t2,rfl,xJ l1 l2,fun b o hb hz e=>k2 b o hb (fun z=>(h b z).elim (ne b o e) hz) (k1 b o hb hz e),fun b hb ⟨o,ho⟩=>e2 b hb (ne b o ho) (e1 b hb ⟨o,ho⟩),b1.trans b2 fun t b h=>x'.exs t h⟩
theorem Pre.last(p:Pre C n k A env (I::Y) l s)(x:KL C I (·=I) s s')(hP:C.P∈Y)(hI:I∉Y)(hc:∀p∈env.cells,p.2∈Y)(hl:env.locals≠I):Pre C n k A env Y l s':=by
 have ci:∀p∈env.cells,p.2≠I:=fun q hq e=>hI (e▸hc q hq)
 have t:=p.gr.tab
 have p':=p
 obtain⟨h1,t1,rfl,l1,k1,e1,b1⟩:=x
 have t':jl C h1:=(b1 t).1
 refine⟨p.bs,p.a,p.eo,⟨fun b o e=>k1 b o (fun hb=>by rw[hb,p.bs.hP] at e;exact zn e) (fun z=>by rw[p.hY b (by simp[z])] at e;exact zn e) (p.gr.keep b o e),t',fun e=>Nat.lt_of_lt_of_le (p.gr.toks e) l1⟩,hP,fun a ha=>p.hY a (qO _ ha),fun a ha=> ?_,?_,hc,?_⟩
 ·by_cases e:a=C.P
  ·subst e;obtain⟨ps,h1,_⟩:=t';exact⟨_,h1⟩
  ·exact e1 a e (fun e=>hI (e▸ha)) (p.hYs a (qO _ ha))
 ·obtain⟨⟨m,hn⟩,xq,ha⟩:=p.fm
  refine⟨⟨m,hn.at fun o e=>k1 _ o (jg t hn) hl e⟩,fun q hq=> ?_,ha⟩
  obtain⟨v,hv⟩:=xq q hq
  refine jH (id hv) fun o ho hd=> ?_
  exact⟨v,o,k1 _ o (qN t hv) (ci q hq) ho,hd⟩
 ·intro y d hy
  refine jH (p.loc y d hy) fun v a rv=> ?_
  refine⟨v,?_,R.mono (fun a o e=> ?_) rv⟩
  ·rcases a with ⟨hk,m,hn,hm⟩|⟨hk,c,xq,hv⟩
   ·exact .inl ⟨hk,m,hn.at fun o e=>k1 _ o (jg t hn) hl e,hm⟩
   ·refine jH (id hv) fun o ho hd=> ?_
    exact .inr ⟨hk,c,xq,o,k1 _ o (qN t hv) (ci _ (mem_of_lookup xq)) ho,hd⟩
  ·obtain⟨e,nn⟩:=jM e
   exact jX (k1 a o (fun h=>nn (qO _ (h▸hP))) (fun z=>nn (by simp[z])) e) fun hm=>nn (qO _ hm)
structure CL(C:Cx)(A:Around)(env:Env)(W:List Addr)(DD:Addr)(Acc:List Addr->Heap->List D->Prop)(gens:List Comprehension):Prop where
 acc:uF DD Acc
 tgt:∀g∈gens,pU env W g.target/\qZ g.iter=false
 loc:env.locals∈W
 nD:DD∉W
 cD:∀p∈env.cells,p.2≠DD
structure LS(C:Cx)(n:Nat)(k:Bool)(A:Around)(env:Env)(W:List Addr)(DD:Addr)(Acc:List Addr->Heap->List D->Prop)(Y:List Addr)(l:Loc)(I:Addr)(its a0:List D)(s:Shared):Prop where
 pre:Pre C n k A env (I::Y) l s
 hP:C.P∈Y
 WY:∀a∈DD::W,a∈Y
 nI:I∉Y
 cY:∀p∈env.cells,p.2∈Y
 own:Own C (I::DD::W) s.heap
 it:gT C A (I::Y) I its s.heap
 acc:Acc (I::Y) s.heap a0
theorem Own.sub{W':List Addr}{h:Heap}(o:Own C W h)(hs:∀a∈W',a∈W):Own C W' h:=⟨fun a ha=>o.ne a (hs a ha),fun a ha=>o.code a (hs a ha),fun a ha=>o.ex a (hs a ha)⟩
theorem jBc(S:SE C n r)(a1:yW (n+1) A)(H:vW e gens acc emit)(c:CL C A env W DD Acc gens){j:Nat}{g:Comprehension}(hg:gens[j]? =some g){deep:Loc->Option (List D)}
  (dp:∀(l':Loc) (here a0:List D) (I:Addr) (its:List D) (s:Shared) (Q:Unit->Shared->Prop),deep l'=some here->a0.length+here.length<=lim->LS C n k A env W DD Acc Y l' I its a0 s->
   (∀s',KW C (fun b=>b∈DD::W) s s'->Pre C n k A env (I::Y) l' s'->Acc (I::Y) s'.heap (a0++here)->Q () s')->wpAny C.M A (g9 e j acc env (emit env) gens[j+1]?) Q NE s)
  {its out a0:List D} {I:Addr} {R:Result->Shared->Prop} (h:compLoop r k env.scope l g deep its=some out) (hlen:a0.length+out.length<=lim) (st:LS C n k A env W DD Acc Y l I its a0 s)
  (q:∀s',KL C I (fun b=>b∈I::DD::W) s s'->Pre C n k A env Y l s'->Acc Y s'.heap (a0++out)->R (.ok .next) s'):codeAny C.M A (.compLoop e j (.ref I) acc env) R s:=by
 have hgm:g∈gens:=List.mem_of_getElem? hg
 refine jHt H hg (fun m s1=>∃yy out' a',yy.length=m/\compLoop r k env.scope l g deep yy=some out'/\a'++out'=a0++out/\LS C n k A env W DD Acc Y l I yy a' s1/\KW C (fun b=>b∈I::DD::W) s s1) ?_ its.length ⟨its,out,a0,rfl,h,rfl,st,KW.refl s⟩
 intro m s1 y0
 obtain⟨yy,out',a',hm,hc,fG,vH,gR⟩:=y0
 have u6:∀a∈I::DD::W,a∈I::Y:=fun a ha=>by
  rcases j0.mp ha with e|ha
  ·simp[e]
  ·exact qO _ (vH.WY a ha)
 have hDP:DD≠C.P:=vH.own.ne DD kK
 have tW:I≠C.P:=vH.own.ne I x9
 have iS:I∉W:=fun h=>vH.nI (vH.WY I (by simp[h]))
 have i6:I≠DD:=fun h=>vH.nI (vH.WY I (by simp[h]))
 have hcI:∀p∈env.cells,p.2≠I:=fun p hp e=>vH.nI (e▸vH.cY p hp)
 have rb:I≠env.locals:=fun e=>iS (e▸c.loc)
 have ax:DD≠env.locals:=fun e=>c.nD (e▸c.loc)
 induction yy using cL with
 |nil=>
  replace hc:=j6 hc;subst hc
  refine jD2 vH.it fun h' tk ht hk=> ?_
  have kl:KL C I (·=I) s1 { s1 with heap:=h',toks:=tk }:=KL.one ht tW (vH.own.code I x9) hk
  refine q _ (gR.last kl fun b e=>by simp[e]) (vH.pre.last kl vH.hP vH.nI vH.cY (Ne.symm rb)) ?_
  rw[<-fG,List.append_nil]
  refine c.acc.sub (I::Y) Y _ _ (fun b hb=>qO _ hb) (c.acc.frame _ _ _ _ vH.acc (fun o e=>hk _ o (Ne.symm i6) e) fun b o hb e=>hk b o (fun e'=>hb (by simp[e'])) e)
 |cons d ds=>
  refine bE (show (wU l g.target d).bind _=some out' from hc) fun l' bI hc=> ?_
  refine bE hc fun ok mA hc=> ?_
  obtain⟨here,more,kF,ux,rfl⟩:∃here more,(if ok=true then deep l' else some [])=some here/\compLoop r k env.scope l g deep ds=some more/\here++more=out':=by
   induction ok using cT with
   |false=>
    refine bE (show Option.bind (compLoop r k env.scope l g deep ds) (fun more=>some ([]++more))=some out' from hc) fun more ux hc=> ?_
    replace hc:=j6 hc;subst hc
    exact⟨[],more,rfl,ux,rfl⟩
   |true=>
    refine bE (show Option.bind (deep l') (fun here=>Option.bind (compLoop r k env.scope l g deep ds) (fun more=>some (here++more)))=some out' from hc) fun here kF hc=> ?_
    refine bE hc fun more ux hc=> ?_
    replace hc:=j6 hc;subst hc
    exact⟨here,more,kF,ux,rfl⟩
  refine gu (u6 I x9) vH.it fun v h' tk ht hk u7 hv=> ?_
  refine jH u7.obj fun o2 ua hcl2=> ?_
  have z5:KW C (fun b=>b=I) s1 { s1 with heap:=h',toks:=tk }:=KW.one ht rfl tW (vH.own.code I x9) hk ⟨o2,ua⟩
  have hZ:∀b,b=I->b∈I::Y:=fun b e=>u6 b (by simp[e])
  have p2:=vH.pre.kw z5 hZ (fun e=>rb e.symm) hcI
  have rj:=vH.own.kw vH.pre.gr.tab z5
  have cb:=c.acc.kw z5 vH.pre.hP hZ (fun e=>i6 e.symm) hDP vH.acc
  refine jAt ⟨o2,ua,hcl2⟩ ?_
  have cJ:∀a∈W,a∈I::Y:=fun a ha=>u6 a (by simp[ha])
  refine jFb p2 (rj.sub fun a ha=>by simp[ha]) (c.tgt g hgm).1 c.loc cJ hv bI fun s3 vO p3=> ?_
  have own3:=rj.kw p2.gr.tab vO
  have ey:=u7.kw vO p2.hP cJ iS tW
  have cZ:=c.acc.kw vO p2.hP cJ c.nD hDP cb
  refine jB2 S a1 p3 mA fun s4 pq p4=> ?_
  have yx:KW C (fun _=>False) s3 s4:=pq.kw
  have bc:=own3.kw p3.gr.tab yx
  have aA:=ey.kw yx p2.hP (fun _ f=>f.elim) (fun f=>f) tW
  have acc4:=c.acc.kw yx p2.hP (fun _ f=>f.elim) (fun f=>f) hDP cZ
  have kw14:KW C (fun b=>b∈I::DD::W) s s4:=gR.trans ((z5.mono fun b e=>by simp[e]).trans ((vO.mono fun b e=>by simp[e]).trans (yx.mono fun b f=>f.elim)))
  have rX:ds.length<m:=by rw[<-hm];simp
  induction ok using cT with
  |false=>
   simp only[Bool.false_eq_true,if_false] at kF ⊢
   replace kF:=j6 kF;subst kF
   exact⟨ds.length,rX,ds,more,a',rfl,ux,fG,⟨p4.weak (jEh bI),vH.hP,vH.WY,vH.nI,vH.cY,bc,aA,acc4⟩,kw14⟩
  |true=>
   simp only[if_true] at kF ⊢
   have hlen':a'.length+here.length<=lim:=by
    have:=congrArg List.length fG
    simp only[List.length_append] at this
    lia
   refine dp l' here a' I ds s4 _ kF hlen' ⟨p4,vH.hP,vH.WY,vH.nI,vH.cY,bc,aA,acc4⟩ fun s5 dq p5 acc5=> ?_
   have hZ5:∀b,b∈DD::W->b∈I::Y:=fun b hb=>u6 b (qO _ hb)
   have hK:I∉DD::W:=by
    intro hm;rcases j0.mp hm with e|e
    ·exact i6 e
    ·exact iS e
   exact⟨ds.length,rX,ds,more,a'++here,rfl,ux,by rw[List.append_assoc];exact fG,⟨p5.weak (jEh bI),vH.hP,vH.WY,vH.nI,vH.cY,bc.kw p4.gr.tab dq,aA.kw dq p2.hP hZ5 hK tW,acc5⟩,kw14.trans (dq.mono fun b hb=>qO _ hb)⟩
theorem vz{g:Expr}(h:qZ g=false)(env:Env)(x:Value):foldedSetIterable g env x=pure x:=by
 cases g <;> first|rfl|(exact Bool.noConfusion h)
theorem qy(h:Heap):h.get? h.objs.size=none:=none_of fun⟨o,e⟩=>Nat.lt_irrefl _ (Heap.lt_size e)
theorem jBl(S:SE C n r)(a1:yW (n+1) A)(H:vW e gens acc emit)(c:CL C A env W DD Acc gens)(em:gi C n k A env DD Acc emitD (emit env)):
  ∀(gs:List Comprehension) (j:Nat) (Y:List Addr) (l:Loc) (I:Addr) (its out a0:List D) (s:Shared) (R:Result->Shared->Prop),gens.drop j=gs->comp r k env.scope emitD gs l its=some out->a0.length+out.length<=lim->
   LS C n k A env W DD Acc Y l I its a0 s->(∀s',KL C I (fun b=>b∈I::DD::W) s s'->Pre C n k A env Y l s'->Acc Y s'.heap (a0++out)->R (.ok .next) s')->codeAny C.M A (.compLoop e j (.ref I) acc env) R s
 |[],j,Y,l,I,its,out,a0,s,R,hj,h,hlen,st,q=>by cases h
 |[g],j,Y,l,I,its,out,a0,s,R,hj,h,hlen,st,q=>by
  have hg:gens[j]? =some g:=by rw[<-List.head?_drop,hj];rfl
  have aV:gens[j+1]? =none:=by
   have:=congrArg List.length hj
   simp only[List.length_drop,List.length_singleton] at this
   exact List.getElem?_eq_none (by lia)
  refine jBc S a1 H c hg (fun l' here a0 I its s Q hd hl st q=> ?_) h hlen st q
  refine mE hd ?_;rintro d yP rfl
  rw[aV]
  refine em (I::Y) l' d s a0 Q yP st.pre (st.own.sub fun a ha=>by replace ha:=j4.mp ha;simp[ha]) (qO _ (st.WY DD x9)) st.acc (Nat.lt_of_succ_le (by exact hl)) fun s' kw ac=> ?_
  exact q s' (kw.mono fun b e=>by simp[e]) (st.pre.kw kw (fun b e=>qO _ (st.WY b (by simp[e]))) (fun e=>c.nD (e▸c.loc)) fun p hp=>c.cD p hp) ac
 |g::g'::gs,j,Y,l,I,its,out,a0,s,R,hj,h,hlen,st,q=>by
  have hg:gens[j]? =some g:=by rw[<-List.head?_drop,hj];rfl
  have iZ:gens.drop (j+1)=g'::gs:=by rw[<-List.drop_drop,hj];rfl
  have aV:gens[j+1]? =some g':=by rw[<-List.head?_drop,iZ];rfl
  have wJ:qZ g'.iter=false:=(c.tgt g' (List.mem_of_getElem? aV)).2
  refine jBc S a1 H c hg (fun l' here a0 I its s Q hd hl st q=> ?_) h hlen st q
  refine bE hd fun yy h1 hd=> ?_
  refine bE h1 fun d1 h1 h2=> ?_
  rw[aV]
  unfold g9
  refine wpAny_bind (S.at st.pre h1 fun v s1 zE p1 rv=>wpAny_bind (wpAny_standAt (wpAny_bind (wpAny_of_eq (vz wJ env v) (wpAny_bind (wpAny_holding ?_))))))
  have gR:KW C (fun _=>False) s s1:=zE.kw
  refine yL p1.a.handled p1.lt rv h2 fun h' hk u7=> ?_
  have hn:s1.heap.get? s1.heap.objs.size=none:=qy _
  refine jH u7.obj fun oi uk _=> ?_
  have p2:Pre C n k A env (s1.heap.objs.size::I::Y) l' { s1 with heap:=h' }:=p1.more hn nL hk ⟨oi,uk⟩
  have yf:KP C s1 { s1 with heap:=h' }:=KP.of nL hk
  have hDP:DD≠C.P:=st.own.ne DD kK
  have fK:=st.own.kw st.pre.gr.tab gR
  have rj:=fK.kw p1.gr.tab (KP.kw yf (Z:=fun _=>False))
  have acc1:=c.acc.kw gR st.pre.hP (fun _ f=>f.elim) (fun f=>f) hDP st.acc
  have cb:=c.acc.more _ _ h' _ s1.heap.objs.size acc1 hn hk
  have hnY:s1.heap.objs.size∉I::Y:=fun hm=>Nat.lt_irrefl _ (p1.lt _ hm)
  have iR:s1.heap.objs.size≠C.P:=fun e=>hnY (e▸p1.hP)
  have eQ:LS C n k A env W DD Acc (I::Y) l' s1.heap.objs.size yy a0 { s1 with heap:=h' }:=by
   refine⟨p2,p1.hP,fun a ha=>qO _ (st.WY a ha),hnY,fun p hp=>qO _ (st.cY p hp),⟨fun a ha=> ?_,fun a ha=> ?_,fun a ha=> ?_⟩,u7,cb⟩
   ·rcases j0.mp ha with rfl|ha
    ·exact iR
    ·exact rj.ne a (qO _ ha)
   ·rcases j0.mp ha with rfl|ha
    ·intro hc
     rcases (yf.tabTo p1.gr.tab).2 _ hc with h|h
     ·obtain⟨o,ho⟩:=p1.gr.tab.code h
      rw[hn] at ho;exact zn ho
     ·refine qU hc fun ps pos e1 e2=> ?_;clear hc
      obtain⟨tA,h1',_⟩:=p1.gr.tab
      have:=hk _ _ h1'
      rw[this] at e1;cases e1
      obtain⟨o,ho⟩:=p1.gr.tab.code ⟨ps,pos,h1',e2⟩
      rw[hn] at ho;exact zn ho
    ·exact rj.code a (qO _ ha)
   ·rcases j0.mp ha with rfl|ha
    ·exact⟨oi,uk⟩
    ·exact rj.ex a (qO _ ha)
  have loop:codeAny C.M A (.compLoop e (j+1) (.ref s1.heap.objs.size) acc env) (fun r s'=>match r with| .ok f=>wpAny C.M A (pure ():Sem Unit) Q NE s'| .error x=>cameBackBy C.M A env NE x s') { s1 with heap:=h' }:=by
   refine jBl S a1 H c em (g'::gs) (j+1) (I::Y) l' s1.heap.objs.size yy here a0 _ _ iZ hd hl eQ fun s3 kl3 p3 cZ=> ?_
   refine wpAny_pure (q s3 ?_ p3 cZ)
   have k12:KW C (fun b=>b∈DD::W) s { s1 with heap:=h' }:=(zE.trans yf).kw
   have hns:s.heap.get? s1.heap.objs.size=none:=none_of fun ho=>by
    obtain⟨o,e⟩:=zE.some st.pre.gr.tab ho
    rw[hn] at e;exact zn e
   exact k12.lastNew hns kl3 fun b hb=>by simpa using hb
  refine wpAny_bind (wpAny_runOwn ?_)
  exact jA4 H aV loop (jA5 u7 loop)
noncomputable def vU(cells:yV)(p:Str×NameKind)(acc:yV):yV:=if p.2= .free then ((cells.lookup p.1).map fun c=>(p.1,c)::acc).getD acc else acc
noncomputable def qk(cells:yV):fC->yV->yV
 |[],acc=>acc
 |p::rs,acc=>qk cells rs (vU cells p acc)
theorem vm(cells:yV)(x:Str)(kd:NameKind)(acc:yV):vU cells (x,kd) acc=acc\/∃c,kd= .free/\cells.lookup x=some c/\vU cells (x,kd) acc=(x,c)::acc:=by
 by_cases h:kd= .free
 ·generalize hc:cells.lookup x=z
  induction z using cO with
  |none=>exact .inl ((if_pos h).trans (by rw[hc];rfl))
  |some c=>exact .inr ⟨c,h,rfl,(if_pos h).trans (by rw[hc];rfl)⟩
 ·exact .inl (if_neg h)
theorem zZ{scope:Scope}(h:∀p∈scope.names,p.2= .free->(env.cells.lookup p.1).isSome=true):closureFor scope env=pure (qk env.cells scope.names []):=by
 have main:∀(names:fC) (acc:yV) (f:Str×NameKind->yV->Sem (ForInStep yV)),(∀x kd a,f (x,kd) a=if kd== .free then (do let c<-cellOf env x;pure (.yield ((x,c)::a))) else pure (.yield a))->
   (∀p∈names,p.2= .free->(env.cells.lookup p.1).isSome=true)->forIn names acc f=pure (qk env.cells names acc):=by
  intro names
  induction names with
  |nil=>intro acc f hf hn;rfl
  |cons p rs ih=>
   obtain⟨x,kd⟩:=p
   intro acc f hf hn
   rw[List.forIn_cons,hf]
   have dr:∀p∈rs,p.2= .free->(env.cells.lookup p.1).isSome=true:=fun p hp=>hn p (qO _ hp)
   refine(?_:_=(pure (qk env.cells rs (vU env.cells (x,kd) acc)):Sem yV))
   by_cases hk:kd= .free
   ·obtain⟨c,hc⟩:=Option.isSome_iff_exists.mp (hn (x,kd) jk hk)
    have hc':env.cells.lookup x=some c:=hc
    have sL:cellOf env x=pure c:=by unfold cellOf;rw[hc']
    rw[show vU env.cells (x,kd) acc=(x,c)::acc from (if_pos hk).trans (by rw[hc];rfl),if_pos (beq_iff_eq.mpr hk),sL,pure_bind,pure_bind]
    exact ih ((x,c)::acc) f hf dr
   ·rw[show vU env.cells (x,kd) acc=acc from if_neg hk,if_neg (fun h=>hk (beq_iff_eq.mp h)),pure_bind]
    exact ih acc f hf dr
 simp only[closureFor]
 rw[main scope.names [] _ (fun x kd a=>rfl) h]
 rfl
theorem yK{cells:yV}(names:fC):∀(acc:yV) (p:Str×Addr),p∈qk cells names acc->p∈acc\/(cells.lookup p.1=some p.2/\(p.1,NameKind.free)∈names):=by
 induction names with
 |nil=>exact fun acc p h=> .inl h
 |cons q rs ih=>
  intro acc p h
  obtain⟨x,kd⟩:=q
  rcases ih (vU cells (x,kd) acc) p h with h|h
  ·rcases vm cells x kd acc with e|e
   ·exact .inl (e▸h)
   ·obtain⟨c,rfl,hc,e⟩:=e
    rw[e] at h
    rcases j0.mp h with rfl|h
    ·exact .inr ⟨hc,jk⟩
    ·exact .inl h
  ·exact .inr ⟨h.1,qO _ h.2⟩
theorem jIa{cells:yV}(names:fC):∀(acc:yV) (p:Str×Addr),p∈acc->p∈qk cells names acc:=by
 induction names with
 |nil=>exact fun acc p h=>h
 |cons q rs ih=>
  intro acc p h
  refine ih (vU cells q acc) p ?_
  rcases vm cells q.1 q.2 acc with e|e
  ·exact(congrArg (p∈·) e).mpr h
  ·obtain⟨c,_,hc,e⟩:=e
   exact(congrArg (p∈·) e).mpr (qO _ h)
theorem jH9{cells:yV}(names:fC):∀(acc:yV) (x:Str) (c:Addr),(x,NameKind.free)∈names->cells.lookup x=some c->(x,c)∈qk cells names acc:=by
 induction names with
 |nil=>exact fun acc x c h=>nomatch h
 |cons q rs ih=>
  intro acc x c h hc
  rcases j0.mp h with e|h
  ·refine jIa rs (vU cells q acc) _ ?_
   rw[<-e,show vU cells (x,.free) acc=(x,c)::acc from (if_pos rfl).trans (by rw[hc];rfl)]
   exact jk
  ·exact ih _ x c h hc
theorem jAc:∀{l:yV} {x:Str} {c:Addr},(x,c)∈l->(l.lookup x).isSome=true
 |(y,b)::rs,x,c,h=>by
  rw[List.lookup_cons]
  generalize e:(x==y)=x0;induction x0 using cT with
  |true=>rfl
  |false=>
   rcases j0.mp h with h|h
   ·cases h;rw[beq_self_eq_true] at e;cases e
   ·exact jAc h
theorem qz{cells:yV}{names:fC}{x:Str}{c:Addr}(h:(x,NameKind.free)∈names)(hc:cells.lookup x=some c):(qk cells names []).lookup x=some c:=by
 obtain⟨c',h'⟩:=Option.isSome_iff_exists.mp (jAc (jH9 (cells:=cells) names [] x c h hc))
 rcases yK names [] _ (mem_of_lookup h') with h2|⟨h2,_⟩
 ·cases h2
 ·rw[hc] at h2;replace h2:=j6 h2;subst h2;exact h'
theorem vn{cells:yV}(ap:cells.Pairwise fun x y=>x.2≠y.2)(names:fC):∀(acc:yV),(names.map (·.1)).Nodup->(∀p∈acc,cells.lookup p.1=some p.2/\p.1∉names.map (·.1))->(acc.Pairwise fun x y=>x.2≠y.2)->((qk cells names acc).Pairwise fun x y=>x.2≠y.2):=by
 induction names with
 |nil=>exact fun acc _ _ h=>h
 |cons q rs ih=>
  intro acc hn ha h
  obtain⟨x,kd⟩:=q
  have dr:=y7.mp hn
  have fG:∀p∈acc,cells.lookup p.1=some p.2/\p.1∉rs.map (·.1):=fun p hp=>⟨(ha p hp).1,fun hm=>(ha p hp).2 (qO _ hm)⟩
  refine(?_:(qk cells rs (vU cells (x,kd) acc)).Pairwise _)
  rcases vm cells x kd acc with e|e
  ·rw[e];exact ih acc dr.2 fG h
  ·obtain⟨c,_,hc,e⟩:=e
   rw[e]
   refine ih _ dr.2 (fun p hp=> ?_) (List.pairwise_cons.mpr ⟨fun q hq e=> ?_,h⟩)
   ·rcases j0.mp hp with rfl|hp
    ·exact⟨hc,dr.1⟩
    ·exact fG p hp
   ·have e':c=q.2:=e
    exact(ha q hq).2 (name_of_addr ap (mem_of_lookup hc) (e'▸mem_of_lookup (ha q hq).1)▸jk)
theorem jBa(c:Str->NameKind->Bool)(x:Str):∀names:fC,(names.map fun(y,kd)=>if c y kd=true then (y,NameKind.cell) else (y,kd)).lookup x=(names.lookup x).map fun kd=>if c x kd=true then .cell else kd
 |[]=>rfl
 |(y,kd)::rs=>by
  have ih:=jBa c x rs
  rw[List.map_cons]
  have hf:(match ((y,kd):Str×NameKind) with|(y,kd)=>if c y kd=true then (y,NameKind.cell) else (y,kd))=(y,if c y kd=true then NameKind.cell else kd):=by
   refine(?_:(if c y kd=true then (y,NameKind.cell) else (y,kd))=_)
   split <;> rfl
  rw[hf,List.lookup_cons,List.lookup_cons]
  by_cases e:x=y
  ·subst e
   simp only[beq_self_eq_true,Option.map_some]
  ·have e':(x==y)=false:=by simpa using e
   simp only[e']
   exact ih
theorem jAk(outer sc:Scope)(x:Str):(jR outer sc).names.lookup x=(sc.names.lookup x).map fun kd=>if (kd== .free&&outer.kind== .function&&outer.names.lookup x==some .cell)=true then .cell else kd:=
 jBa (fun x kd=>kd== .free&&outer.kind== .function&&outer.names.lookup x==some .cell) x sc.names
theorem jCj{sc:Scope}{t:Expr}(h:uj sc t=true):∀x∈xh t,sc.names.lookup x=some .local\/sc.names.lookup x=some .cell:=by
 unfold uj at h
 refine gm (P:=fun _ ns=>cn ns false (fun x=>decide (sc.names.lookup x=some .local\/sc.names.lookup x=some .cell)) (fun x y=>decide ((sc.names.lookup x=some .local\/sc.names.lookup x=some .cell)/\(sc.names.lookup y=some .local\/sc.names.lookup y=some .cell)/\x≠y))=true->∀x∈ns,sc.names.lookup x=some .local\/sc.names.lookup x=some .cell) (fun _ h=>ff h) (fun x _ h=> ?_) (fun x _ y _ _ _ h=> ?_) h
 ·exact List.forall_mem_cons.mpr ⟨of_decide_eq_true h,fun _ h=>nomatch h⟩
 ·replace h:=of_decide_eq_true (show decide ((sc.names.lookup x=some .local\/sc.names.lookup x=some .cell)/\(sc.names.lookup y=some .local\/sc.names.lookup y=some .cell)/\x≠y)=true from h)
  exact List.forall_mem_cons.mpr ⟨h.1,List.forall_mem_cons.mpr ⟨h.2.1,fun _ h=>nomatch h⟩⟩
variable{s1:Shared}
theorem Own.fresh{h h':Heap}(t:jl C h)(hP:∀a∈W,a≠C.P)(k:∀b o,h.get? b=some o->h'.get? b=some o)(hn:∀a∈W,h.get? a=none)(ho:∀a∈W,∃o,h'.get? a=some o):Own C W h':=by
 refine⟨hP,fun a ha hc=> ?_,ho⟩
 obtain⟨ps,h1,h2,h3⟩:=id t
 refine qU hc fun tA pos e1 e2=> ?_;clear hc
 rw[k _ _ h1] at e1;cases e1
 obtain⟨o,ho'⟩:=t.code ⟨ps,pos,h1,e2⟩
 rw[hn a ha] at ho';exact zn ho'
theorem kpNew{h4 h':Heap}{tk:Nat}{L:Addr}(x:KP C s s1)(t:jl C s.heap)(ht:s1.toks<=tk)(k4:∀b o,s1.heap.get? b=some o->h4.get? b=some o)(y:KL C I Z { s1 with heap:=h4,toks:=tk } s')
  (hI:s1.heap.get? I=none) (hZ:∀b,Z b->s1.heap.get? b=none) (hL:s1.heap.get? L=none) (oA:¬jx C s'.heap L) (hs:Heap.SameBut L s'.heap h'):KP C s { s' with heap:=h' }:=by
 obtain⟨h2,t2,rfl,l2,k2,e2,b2⟩:=y
 refine x.trans ⟨h',t2,rfl,xJ ht l2,fun b o hb e=> ?_,?_⟩
 ·have ik:b≠L:=fun e'=>by rw[e',hL] at e;exact zn e
  refine(?_:h'.get? b=some o)
  rw[hs.2 b ik]
  exact k2 b o hb (fun z=>by rw[hZ b z] at e;exact zn e) (k4 b o e)
 ·have t1:=x.tab t
  have nj:L≠C.P:=fun e=>by
   obtain⟨ps,h1,_⟩:=t1
   rw[e,h1] at hL;cases hL
  have a1:qX C s1.heap h2:=(qX.keeps k4).trans b2 fun _ b ⟨o,e⟩=>⟨o,k4 b o e⟩
  refine a1.trans (qX.one nj oA fun b o hb e=>by rw[hs.2 b hb];exact e) fun tt b ⟨o,e⟩=> ?_
  by_cases hb:b=C.P
  ·subst hb
   obtain⟨ps,h1,_⟩:=(a1 tt).1
   exact⟨_,h1⟩
  ·exact⟨o,k2 b o hb (fun z=>by rw[hZ b z] at e;exact zn e) (k4 b o e)⟩
theorem qm:∀{names:fC} {x:Str} {kd:NameKind},(names.map (·.1)).Nodup->(x,kd)∈names->names.lookup x=some kd
 |(y,kd')::rs,x,kd,hn,h=>by
  rw[List.lookup_cons]
  rcases j0.mp h with e|h
  ·cases e;simp
  ·have hx:x≠y:=fun e=>(y7.mp hn).1 (e▸vK.mpr ⟨(x,kd),h,rfl⟩)
   have e':(x==y)=false:=by simpa using hx
   rw[e']
   exact qm (y7.mp hn).2 h
theorem qE{names:fC}{x:Str}{kd:NameKind}(h:names.lookup x=some kd):(x,kd)∈names:=by
 refine xQ (xW h) fun q hq h1 h2=> ?_
 rw[<-h1,<-h2];exact hq
noncomputable def jB(ce:Env):List Addr:=ce.locals::(ce.cells.map (·.2)).filter (fun a=>decide (ce.locals<a))
structure OkC(sc jS:Scope)(gens:List Comprehension):Prop where
 kind:jS.kind= .function
 nodup:(jS.names.map (·.1)).Nodup
 free:∀p∈jS.names,p.2= .free->sc.names.lookup p.1=some .cell\/sc.names.lookup p.1=some .free
 sync:∀g∈gens,g.is_async=0
 set:∀g∈gens,qZ g.iter=false
 tgt:∀g∈gens,uj jS g.target=true
theorem nO{sc jS:Scope}(h:jm sc jS gens=true):OkC sc jS gens:=by
 unfold jm at h
 simp only[Bool.and_eq_true,decide_eq_true_eq,List.all_eq_true,Bool.not_eq_true'] at h
 obtain⟨⟨⟨h1,h2⟩,h3⟩,h4⟩:=h
 exact⟨h1,h2,fun p hp=>h3 p hp,fun g hg=>(h4 g hg).1.1,fun g hg=>(h4 g hg).1.2,fun g hg=>(h4 g hg).2⟩
theorem jJw{jS:Scope}{ce:Env}{h4:Heap}{L:Addr}{b:Addr}(oc:OkC env.scope jS gens)(eo:rR C k env)
  (he:ce={ newEnv jS L env.globals (cellsFrom (L+1) jS.names (qk env.cells jS.names [])) env.qual none .none (some env) b with scope:=relabel jS env }):
  rR C k ce/\ce.scope=jR env.scope jS/\ce.locals=L/\ce.cells=cellsFrom (L+1) jS.names (qk env.cells jS.names [])/\(∀g∈gens,pU ce (jB ce) g.target):=by
 have hk:∀x,ce.kindOf x=(jS.names.lookup x).map fun kd=>if (kd== .free&&env.scope.kind== .function&&env.scope.names.lookup x==some .cell)=true then .cell else kd:=fun x=>by
  subst he;exact jAk env.scope jS x
 have xV:ce.cells=cellsFrom (L+1) jS.names (qk env.cells jS.names []):=by subst he;rfl
 have yZ:ce.locals=L:=by subst he;rfl
 refine⟨⟨?_,?_,?_,fun x hx=> ?_,fun fz=> ?_⟩,by subst he;rfl,yZ,xV,fun g hg x hx=> ?_⟩
 ·subst he;exact oc.kind
 ·subst he;exact eo.glob
 ·subst he;exact eo.bi
 ·rw[xV]
  rw[hk x] at hx
  generalize hl:jS.names.lookup x=x0;induction x0 using cO with
  |none=>rw[hl] at hx;rcases hx with hx|hx <;> cases hx
  |some kd=>
   rw[hl] at hx
   by_cases hc:kd= .cell
   ·subst hc;exact xA _ _ _ _ (.inl hl)
   ·have hf:kd= .free:=by
     rcases hx with hx|hx
     ·simp only[Option.map_some,Option.some.injEq] at hx
      split at hx
      ·rename_i hh;simp only[Bool.and_eq_true,beq_iff_eq] at hh;exact hh.1.1
      ·exact absurd hx hc
     ·simp only[Option.map_some,Option.some.injEq] at hx
      split at hx
      ·cases hx
      ·exact hx
    subst hf
    have hm:=qE hl
    obtain⟨c,mV⟩:=Option.isSome_iff_exists.mp (eo.cells x (oc.free _ hm rfl))
    refine xA _ _ _ _ (.inr ?_)
    rw[qz hm mV];rfl
 ·subst he;exact eo.lam fz
 ·have ht:=oc.tgt g hg
  have hx':jS.names.lookup x=some .local\/jS.names.lookup x=some .cell:=by
   generalize g.target=tt at hx ht
   exact jCj ht x hx
  have lW:ce.kindOf x=jS.names.lookup x:=by
   rw[hk x]
   rcases hx' with e|e <;> rw[e] <;> rfl
  refine⟨by rw[lW];exact hx',fun c hc bH=> ?_⟩
  rw[lW] at hc
  rw[xV] at bH
  refine jH (jCx jS.names (L+1) (qk env.cells jS.names []) x ⟨_,qE hc,rfl,rfl⟩) fun c' h1 h2=> ?_
  rw[bH] at h2;replace h2:=j6 h2;subst h2
  refine qO _ (qG.mpr ⟨?_,?_⟩)
  ·rw[xV];exact List.mem_map_of_mem (f:=(·.2)) (mem_of_lookup bH)
  ·rw[yZ];exact decide_eq_true h1
variable{jS:Scope}
theorem uS{a:Addr}(hm:a∈I::(W++DD::Y)):a∈I::DD::W\/a∈Y:=by
 rcases j0.mp hm with e|hm
 ·exact .inl (by simp[e])
 ·rcases jq.mp hm with hm|hm
  ·exact .inl (by simp[hm])
  ·rcases j0.mp hm with e|hm
   ·exact .inl (by simp[e])
   ·exact .inr hm
theorem uF.moreL(a:uF DD Acc){h h':Heap}{a0:List D}:∀(Z:List Addr),Acc Y h a0->(∀b∈Z,h.get? b=none)->(∀b o,h.get? b=some o->h'.get? b=some o)->Acc (Z++Y) h' a0
 |[],x,_,hk=>a.frame Y h h' a0 x (fun o e=>hk _ o e) fun b o _ e=>hk b o e
 |z::Z,x,hz,hk=>by
  have y:=uF.moreL a (h:=h) (h':=h) Z x (fun b hb=>hz b (qO _ hb)) fun _ _ e=>e
  exact a.more (Z++Y) h h' a0 z y (hz z jk) hk
theorem jEd(S:SE C n r)(a1:yW (n+1) A)(oc:OkC env.scope jS gens)(H:vW e gens acc emit)(as:uF DD Acc)(em:∀ce:Env,ce.scope=jR env.scope jS->gi C n k A ce DD Acc emitD (emit ce))
  (p:Pre C n k A env Y l s1) {h3:Heap} (k3:∀b o,s1.heap.get? b=some o->h3.get? b=some o) (hI:s1.heap.get? I=none) (hD:s1.heap.get? DD=none) (hID:I≠DD) (exD:∃o,h3.get? DD=some o)
  {its out:List D} (it:gT C A (DD::I::Y) I its h3) (uA:Acc (I::DD::Y) h3 []) (h:comp r k (jR env.scope jS) emitD gens (jL jS l) its=some out) (hlen:out.length<=lim) {b:Addr} {R:Addr->Result->Shared->Prop}
  (q:∀L h4 tk s' (Z:Addr->Prop),s1.toks<=tk->(∀b o,s1.heap.get? b=some o->h4.get? b=some o)->KL C I Z { s1 with heap:=h4,toks:=tk } s'->(∀b,Z b->s1.heap.get? b=none)->s1.heap.get? L=none->¬jx C s'.heap L->L≠DD->(∃m,s'.heap.Ns L m)->Acc (L::Y) s'.heap out->R L (.ok .next) s'):
  wpAny C.M A (newFunctionEnv jS env.globals (qk env.cells jS.names []) [] env.qual none .none (some env) b) (fun cenv s4=>codeAny C.M A (.compStart e 0 (.ref I) acc { cenv with scope:=relabel jS env }) (R cenv.locals) s4) NE { s1 with heap:=h3 }:=by
 refine vE oc.kind (fun x hx=>by cases hx) (fun x hx=> ?_) (fun q hq=> ?_) (vn p.fm.apart jS.names [] oc.nodup (fun _ h=>by cases h) List.Pairwise.nil) fun cR h4 tk he ht nz fm0 _=> ?_
 ·have hm:=qE hx
  obtain⟨c,mV⟩:=Option.isSome_iff_exists.mp (p.eo.cells x (oc.free _ hm rfl))
  rw[qz hm mV];rfl
 ·rcases yK jS.names [] q hq with h|⟨h,_⟩
  ·cases h
  ·obtain⟨v,hv⟩:=p.fm.cl _ (mem_of_lookup h)
   exact⟨v,hv.keeps k3⟩
 ·generalize hL:h3.objs.size=L at he
  have hLn:h3.get? L=none:=hL▸qy h3
  have hfresh3:∀a,h3.get? a=none->s1.heap.get? a=none:=fun a ha=>none_of fun⟨o,e⟩=>by rw[k3 a o e] at ha;cases ha
  have nR:∀b o,s1.heap.get? b=some o->h4.get? b=some o:=fun b o e=>nz b o (k3 b o e)
  generalize nc:({ cR with scope:=relabel jS env }:Env)=ce
  refine fS (jJw (C:=C) (k:=k) (gens:=gens) (ce:=ce) (h4:=h4) (L:=L) (b:=b) oc p.eo (by rw[<-nc,he])) fun eo qJ yZ xV htg=> ?_
  have fm:dP ce h4:=by subst nc;exact⟨fm0.ns,fm0.cl,fm0.apart⟩
  have aq:cR.locals=L:=by rw[he];rfl
  have wf:=gN jS.names (h3.push (jc [] 0)) (qk env.cells jS.names []) (fun q hq=>by
   rcases yK jS.names [] q hq with h|⟨h,_⟩
   ·cases h
   ·obtain⟨v,hv⟩:=p.fm.cl _ (mem_of_lookup h)
    exact⟨v,(hv.keeps k3).keeps fun b o e=>wW _ e⟩) (vn p.fm.apart jS.names [] oc.nodup (fun _ h=>by cases h) List.Pairwise.nil)
  rw[Heap.size_push,hL] at wf
  have fh:∀q∈ce.cells,q.2∈Y\/(q.2∈jB ce):=fun q hq=>by
   rcases wf.2.2 q (xV▸hq) with h|h
   ·rcases yK jS.names [] q h with h|⟨h,_⟩
    ·cases h
    ·exact .inl (p.hc _ (mem_of_lookup h))
   ·refine .inr (qO _ (qG.mpr ⟨List.mem_map_of_mem (f:=(·.2)) hq,?_⟩))
    rw[yZ];exact decide_eq_true h
  have fH:∀a∈jB ce,h3.get? a=none:=fun a ha=>by
   have dF:L<=a:=by
    rcases j0.mp ha with e|ha
    ·rw[e,yZ]
     exact Nat.le_refl _
    ·have:=of_decide_eq_true (qG.mp ha).2
     rw[yZ] at this
     exact Nat.le_of_lt this
   exact none_of fun⟨o,e⟩=>by
    have:=Heap.lt_size e
    rw[hL] at this
    exact absurd dF (Nat.not_le.mpr this)
  have sS:∀a∈jB ce,∃o,h4.get? a=some o:=fun a ha=>by
   rcases j0.mp ha with e|ha
   ·refine ue fm.ns fun m o es ep ho _=> ?_
    exact⟨o,e▸ho⟩
   ·refine jH (vK.mp (qG.mp ha).1) ?_;rintro q hq rfl
    refine qU (fm.cl q hq) fun v o ho _=> ?_
    exact⟨o,ho⟩
  refine jH it.obj fun oi uk _=> ?_
  obtain⟨od,u9⟩:=exD
  have hX:DD∉jB ce:=fun hm=>by rw[fH DD hm] at u9;exact zn u9
  have hIW:I∉jB ce:=fun hm=>by rw[fH I hm] at uk;exact zn uk
  have iz:I∉Y:=fun hm=>by obtain⟨o,ho⟩:=p.hYs I hm;rw[hI] at ho;exact zn ho
  have hDY:DD∉Y:=fun hm=>by obtain⟨o,ho⟩:=p.hYs DD hm;rw[hD] at ho;exact zn ho
  have yY:∀a∈I::DD::jB ce,s1.heap.get? a=none:=fun a ha=>by
   rcases j0.mp ha with rfl|ha
   ·exact hI
   ·rcases j0.mp ha with rfl|ha
    ·exact hD
    ·exact hfresh3 a (fH a ha)
  have hex:∀a∈I::DD::jB ce,∃o,h4.get? a=some o:=fun a ha=>by
   rcases j0.mp ha with rfl|ha
   ·exact⟨oi,nz _ _ uk⟩
   ·rcases j0.mp ha with rfl|ha
    ·exact⟨od,nz _ _ u9⟩
    ·exact sS a ha
  have iR:∀a∈I::DD::jB ce,a≠C.P:=fun a ha e=>by
   obtain⟨o,ho⟩:=p.hYs C.P p.hP
   rw[<-e,yY a ha] at ho;exact zn ho
  have lP:s1.toks<=tk:=ht
  have kp:KP C s1 { s1 with heap:=h4,toks:=tk }:=KP.of lP nR
  have own:Own C (I::DD::jB ce) h4:=Own.fresh p.gr.tab iR nR yY hex
  have hview:∀a o,view s1.heap Y a=some o->view h4 (I::(jB ce++DD::Y)) a=some o:=fun a o e=>by
   obtain⟨e,nn⟩:=jM e
   refine jX (nR a o e) fun hm=> ?_
   have:a∈I::DD::jB ce\/a∈Y:=uS hm
   rcases this with hm|hm
   ·rw[yY a hm] at e;exact zn e
   ·exact nn hm
  have pre:Pre C n k A ce (I::(jB ce++DD::Y)) (jL jS l) { s1 with heap:=h4,toks:=tk }:=by
   have p':=p.kp kp
   refine⟨p.bs,p.a,eo,p'.gr,by simp[p.hP],fun a ha=> ?_,fun a ha=> ?_,fm,fun q hq=> ?_,fun x d hx=> ?_⟩
   ·rcases uS ha with h|h
    ·exact none_of fun⟨o,ho⟩=>by
      have:=p.gr.keep _ o ho
      rw[yY a h] at this;exact zn this
    ·exact p.hY a h
   ·rcases uS ha with h|h
    ·exact hex a h
    ·exact p'.hYs a h
   ·rcases fh q hq with h|h <;> simp[h]
   ·unfold jL at hx
    revert hx;refine wL fun hf hx=> ?_
    ·have hm:=qE hf
     refine jH (p.loc x d hx) fun v va rv=> ?_
     refine⟨v,?_,Mine.R.mono hview rv⟩
     rcases va with ⟨hk,_⟩|⟨hk,c,hc,hv⟩
     ·have uo:env.scope.names.lookup x=some .local:=hk
      rcases oc.free _ hm rfl with h|h
      ·rw[h] at uo;cases uo
      ·rw[h] at uo;cases uo
     ·refine .inr ⟨?_,c,?_,hv.keeps nR⟩
      ·have lW:ce.kindOf x=(jR env.scope jS).names.lookup x:=by
        refine(?_:ce.scope.names.lookup x=_)
        rw[qJ]
       rw[lW,jAk,hf]
       simp only[Option.map_some,Option.some.injEq]
       split
       ·exact .inl rfl
       ·exact .inr rfl
      ·rw[xV,xm jS.names (L+1) _ x fun q hq e1 e2=> ?_]
       ·exact qz hm hc
       ·have:=qm oc.nodup (show (x,NameKind.cell)∈jS.names by rw[<-e1,<-e2];exact hq)
        rw[hf] at this;cases this
  have st:LS C n k A ce (jB ce) DD Acc (jB ce++DD::Y) (jL jS l) I its [] { s1 with heap:=h4,toks:=tk }:=by
   refine⟨pre,by simp[p.hP],fun a ha=> ?_,fun hm=> ?_,fun q hq=> ?_,own,(it.more (Z:=jB ce) fH nz).perm fun b=> ?_,as.sub (jB ce++I::DD::Y) _ _ _ (fun b hb=> ?_) (as.moreL (jB ce) uA fH nz)⟩
   ·rcases j0.mp ha with e|h
    ·simp[e]
    ·simp[h]
   ·rcases jq.mp hm with h|h
    ·exact hIW h
    ·rcases j0.mp h with h|h
     ·exact hID h
     ·exact iz h
   ·rcases fh q hq with h|h <;> simp[h]
   ·simp only[List.mem_cons,List.mem_append]
    constructor
    ·rintro (h|h|h|h)
     ·exact .inr (.inr (.inl h))
     ·exact .inl h
     ·exact .inr (.inl h)
     ·exact .inr (.inr (.inr h))
    ·rintro (h|h|h|h)
     ·exact .inr (.inl h)
     ·exact .inr (.inr (.inl h))
     ·exact .inl h
     ·exact .inr (.inr (.inr h))
   ·simp only[List.mem_cons,List.mem_append] at hb ⊢
    rcases hb with h|h|h|h
    ·exact .inr (.inl h)
    ·exact .inl h
    ·exact .inr (.inr (.inl h))
    ·exact .inr (.inr (.inr h))
  have cl:CL C A ce (jB ce) DD Acc gens:=⟨as,fun g hg=>⟨htg g hg,oc.set g hg⟩,jk,hX,fun q hq e=>by
   rcases fh q hq with h|h
   ·exact hDY (e▸h)
   ·exact hX (e▸h)⟩
  have loop:codeAny C.M A (.compLoop e 0 (.ref I) acc ce) (R cR.locals) { s1 with heap:=h4,toks:=tk }:=by
   refine jBl S a1 H cl (em ce qJ) gens 0 (jB ce++DD::Y) (jL jS l) I its out [] _ _ rfl (by rw[qJ];exact h) (by simpa using hlen) st fun s' kl p' ac=> ?_
   rw[aq]
   refine q L h4 tk s' _ lP nR kl (fun b hb=>yY b hb) (yY L (by simp[jB,yZ])) ?_ (fun e=>hX (by simp[jB,yZ,e])) (yZ▸p'.fm.ns) ?_
   ·intro hc
    obtain⟨h5,t5,rfl,l5,k5,e5,b5⟩:=kl
    have hmL:L∈I::DD::jB ce:=by simp[jB,yZ]
    rcases (b5 pre.gr.tab).2 L hc with h|h
    ·exact own.code L hmL h
    ·obtain⟨o,ho⟩:=hex L hmL
     have h':h4.get? L=none:=h
     rw[h'] at ho;exact zn ho
   ·exact as.sub _ (L::Y) _ _ (fun b hb=>by rcases j0.mp hb with e|hb;simp[jB,yZ,e];simp[hb]) ac
  have hgne:∃g,gens[0]? =some g:=by
   induction gens using cL with
   |nil=>cases h
   |cons g gs=>exact⟨g,rfl⟩
  obtain⟨g,hg⟩:=hgne
  have aA:gT C A (DD::I::Y) I its h4:=it.keep (fun o e=>nz _ _ e) fun b o _ e=>nz b o e
  exact jA4 H hg loop (jA5 aA loop)
def cg(C:Cx)(DD:Addr)(Y:List Addr)(h:Heap)(a0:List D):Prop:=∃vs m,h.get? DD=some (jc vs m)/\q5 C h Y vs a0
theorem accL(C:Cx)(DD:Addr):uF DD (cg C DD):=
 ⟨fun Y h h' a0 ⟨vs,m,h1,h2⟩ hD hk=>⟨vs,m,hD _ h1,Rs.mono (yG hk) h2⟩,
  fun Y h h' a0 I ⟨vs,m,h1,h2⟩ hn hk=>⟨vs,m,hk _ _ h1,Rs.mono (ye (Z:=[I]) (fun b o _ e=>hk b o e) fun b hb=>by replace hb:=j4.mp hb;subst hb;exact hn) h2⟩,
  fun Y Y' h a0 hs ⟨vs,m,h1,h2⟩=>⟨vs,m,h1,Rs.mono (jh hs) h2⟩⟩
theorem emitL(S:SE C n r){ce:Env}{sc:Scope}{elt:Expr}(qJ:ce.scope=sc):gi C n k A ce DD (cg C DD) (fun l'=>r.E k sc l' elt) (do let _<-call (.builtin "list.append") [.ref DD,<-eval elt ce]):=by
 intro Y l d s a0 Q hd p own hDY uA hlen q
 subst qJ
 refine wpAny_bind (S.at p hd fun v s1 kp p1 rv=> ?_)
 refine qU uA fun vs m h1 h2=> ?_;clear uA
 have hDP:DD≠C.P:=own.ne DD x9
 have h1':=kp.heap hDP h1
 have h2':=q5.kp kp p.hP h2
 have hl:vs.length=a0.length:=h2.length
 have fK:=own.kw p.gr.tab (KP.kw kp (Z:=fun _=>False))
 refine wpAny_bind (wpAny_list_append_plain (items:=vs.toArray) ⟨m,h1'⟩ (fun h' hp hs=> ?_) (by
  have:lim=1000000:=rfl
  exact xJ (by simp;lia:vs.toArray.size<=1000000) kD))
 obtain⟨m',hp⟩:=hp
 have kw:KW C (·=DD) s1 { s1 with heap:=h' }:=KW.one nL rfl hDP (fK.code DD x9) (fun b o hb e=>by rw[hs.2 b hb];exact e) ⟨_,hp⟩
 have hZ:∀b,b=DD->b∈Y:=fun b e=>e▸hDY
 refine wpAny_pure (q _ ((KP.kw kp).trans kw) ⟨vs++[v],m',?_,?_⟩)
 ·have:(vs.toArray.push v)=(vs++[v]).toArray:=by simp
  rw[this] at hp
  exact hp
 ·exact Rs.append (q5.kw kw p.hP hZ h2') (.cons (RD.kw kw p.hP hZ rv) .nil)
end
open PySem.SeqAt
open AutoSeq1 (wpAny_loadPart')
open PySem.Spec
section
variable{K:Type}[DecidableEq K]{α:Type}
noncomputable def km(k:K)(v:α):List K->List α->List α
 |k'::ks,x::xs=>(if k'=k then v else x)::km k v ks xs
 |_,_=>[]
theorem vg(k:K)(v:α):∀(ks:List K) (xs:List α),ks.length=xs.length->ks.length=(km k v ks xs).length
 |[],[],_=>rfl
 |k'::ks,x::xs,h=>by
  exact congrArg (·+1) (vg k v ks xs (Nat.succ.inj h))
theorem vX(k:K)(v:α):∀(ks:List K) (xs:List α),ks.length=xs.length->(ks.zip xs).map (fun kv=>if kv.1=k then (kv.1,v) else kv)=ks.zip (km k v ks xs)
 |[],[],_=>rfl
 |k'::ks,x::xs,h=>by
  rw[show km k v (k'::ks) (x::xs)=(if k'=k then v else x)::km k v ks xs from rfl,List.zip_cons_cons,List.zip_cons_cons,List.map_cons,vX k v ks xs (Nat.succ.inj h)]
  by_cases e:k'=k
  ·simp[e]
  ·simp[e]
theorem oX(k:K):∀(ks:List K) (xs:List α),ks.length=xs.length->((ks.zip xs).any fun kv=>kv.1=k)=decide (k∈ks)
 |[],[],_=>rfl
 |k'::ks,x::xs,h=>by
  rw[List.zip_cons_cons,List.any_cons,oX k ks xs (by simpa using h)]
  by_cases e:k'=k
  ·simp[e]
  ·have:k≠k':=fun h=>e h.symm
   simp[e,this]
theorem wi[BEq K][LawfulBEq K](k:K):∀(ks:List K) (xs:List α),ks.length=xs.length->((ks.zip xs).lookup k).isSome=decide (k∈ks)
 |[],[],_=>rfl
 |k'::ks,x::xs,h=>by
  rw[List.zip_cons_cons,List.lookup_cons]
  by_cases e:k=k'
  ·subst e;simp
  ·have e':(k==k')=false:=by simpa using e
   rw[e']
   simp only[List.mem_cons,e,false_or]
   exact wi k ks xs (by simpa using h)
theorem Rs.upd{prog:Program}{w:World}{H:HV}{k:K}{v:Value}{d:D}(hv:R prog w H v d){vs:List Value}{ds:List D}(rs:Rs prog w H vs ds):∀{ks:List K},ks.length=vs.length->Rs prog w H (km k v ks vs) (km k d ks ds):=
 rs.ind (P:=fun vs ds=>∀{ks:List K},ks.length=vs.length->Rs prog w H (km k v ks vs) (km k d ks ds)) (fun {ks} _=>by
  induction ks using cL with
  |nil=>exact .nil
  |cons _ _=>exact .nil) fun x y vs ds r _ ih {ks} h=>by
  induction ks using cL with
  |nil=>exact .nil
  |cons k' ks=>
   refine(?_:Rs _ _ _ ((if k'=k then v else x)::km k v ks vs) ((if k'=k then d else y)::km k d ks ds))
   refine .cons ?_ (ih (Nat.succ.inj h))
   by_cases e:k'=k
   ·rw[if_pos e,if_pos e];exact hv
   ·rw[if_neg e,if_neg e];exact r
end
theorem jBk(k:Str)(v:D):∀(a0:List D) (acc m:xO),dictS? acc a0=some m->dictS? acc (a0++[.tup [.str k,v]])=some (qt m k v)
 |[],acc,m,h=>by (replace h:=j6 h;subst h);rfl
 |d::a0,acc,m,h=>by
  refine bE (show ((pairS? d).bind fun p=>dictS? (qt acc p.1 p.2) a0)=some m from h) fun p h1 h2=> ?_
  refine(?_:((pairS? d).bind fun p=>dictS? (qt acc p.1 p.2) (a0++[.tup [.str k,v]]))=_)
  rw[h1]
  exact jBk k v a0 _ m h2
section
variable{C:Cx}{n:Nat}{r:Ev}{k:Bool}{A:Around}
def pY(C:Cx)(DD:Addr)(Y:List Addr)(h:Heap)(a0:List D):Prop:=∃(o:Obj) (ks:List Str) (vs:List Value) (ds:List D),h.get? DD=some o/\o.IsDictOf (strKind C.prog C.w) (ks.zip vs)/\ks.length=vs.length/\q5 C h Y vs ds/\dictS? [] a0=some (ks.zip ds)/\ks.length<=a0.length
theorem accDS(C:Cx)(DD:Addr):uF DD (pY C DD):=
 ⟨fun Y h h' a0 x hD hk=>by
  obtain⟨o,ks,vs,ds,h1,h2,h3,h4,h5⟩:=x
  exact⟨o,ks,vs,ds,hD _ h1,h2,h3,Rs.mono (yG hk) h4,h5⟩,
  fun Y h h' a0 I x hn hk=>by
   obtain⟨o,ks,vs,ds,h1,h2,h3,h4,h5⟩:=x
   exact⟨o,ks,vs,ds,hk _ _ h1,h2,h3,Rs.mono (ye (Z:=[I]) (fun b o _ e=>hk b o e) fun b hb=>by replace hb:=j4.mp hb;subst hb;exact hn) h4,h5⟩,
  fun Y Y' h a0 hs x=>by
   obtain⟨o,ks,vs,ds,h1,h2,h3,h4,h5⟩:=x
   exact⟨o,ks,vs,ds,h1,h2,h3,Rs.mono (jh hs) h4,h5⟩⟩
set_option tactic.hygienic true in
theorem emitDS(S:SE C n r){ce:Env}{sc:Scope}{DD:Addr}{ke ve:Expr}{P:Pos}(qJ:ce.scope=sc):gi C n k A ce DD (pY C DD) (uJ r k sc ke ve) (do
   let kv<-eval ke ce
   let vv<-holding [kv] (eval ve ce)
   standAt P
   holding [kv,vv] (dictSet DD kv vv)):=by
 intro Y l d s a0 Q hd p own hDY uA hlen q
 subst qJ
 unfold uJ at hd
 refine bE hd fun a h1 hd=> ?_
 refine bE hd fun b h2 hd=> ?_
 refine mE hd fun x hx hd2=> ?_
 clear hd
 obtain rfl:=yo hx
 ·subst hd2
  refine wpAny_bind (S.at p h1 fun kv s1 zE p1 rk=>wpAny_bind (wpAny_holding (S.at p1 h2 fun vv s2 yf p2 rv=>wpAny_bind (wpAny_standAt (wpAny_holding ?_)))))
  obtain⟨t,rfl⟩:∃t,kv= .str x t:=by cases rk;exact⟨_,rfl⟩
  obtain⟨o,ks,vs,ds,g1,g2,g3,g4,g5,g6⟩:=uA
  have kp:=zE.trans yf
  have hDP:DD≠C.P:=own.ne DD x9
  have g1':=kp.heap hDP g1
  have g4':=q5.kp kp p.hP g4
  have fK:=own.kw p.gr.tab (KP.kw kp (Z:=fun _=>False))
  have jw:lim=1000000:=rfl
  refine wpAny_dictSet_pairs (strKind_is _ _ x t) (Heap.dictOf_iff.mpr ⟨o,g1',g2⟩) (fun h' hD hs=> ?_) (sz (by rw[List.length_zip];lia))
  refine jH (Heap.dictOf_iff.mp hD) fun o' ho' yP=> ?_
  have kw:KW C (·=DD) s2 { s2 with heap:=h',toks:=s2.toks+1 }:=KW.one (Nat.le_succ _) rfl hDP (fK.code DD x9) (fun b o hb e=>by rw[hs.2 b hb];exact e) ⟨_,ho'⟩
  have hZ:∀b,b=DD->b∈Y:=fun b e=>e▸hDY
  have lG:=RD.kw kw p.hP hZ rv
  have g4'':=q5.kw kw p.hP hZ g4'
  have wq:ks.length=ds.length:=g3.trans g4.length
  have bB:=jBk x b a0 [] _ g5
  refine q _ ((KP.kw kp).trans kw) ?_
  unfold stored at yP
  unfold qt at bB
  rw[oX x ks vs g3] at yP
  rw[wi x ks ds wq] at bB
  by_cases hm:x∈ks
  ·simp only[hm,decide_true,if_true] at yP bB
   rw[vX x vv ks vs g3] at yP
   rw[vX x b ks ds wq] at bB
   exact⟨o',ks,_,_,ho',yP,vg x vv ks vs g3,Rs.upd lG g4'' g3,bB,by simp;exact(cj zA)⟩
  ·simp only[hm,decide_false,Bool.false_eq_true,if_false] at yP bB
   refine⟨o',ks++[x],vs++[vv],ds++[b],ho',?_,by simp[g3],Rs.append g4'' (.cons lG .nil),?_,by simp;assumption⟩
   ·rw[List.zip_append g3];exact yP
   ·rw[List.zip_append wq];exact bB
theorem vM{α1:Type}{A1 A2 A3:α1->Prop}(x1:α1)(h1:A1 x1)(h2:A2 x1)(h3:A3 x1):∃x1,A1 x1/\A2 x1/\A3 x1:=⟨x1,h1,h2,h3⟩
theorem oM{α1 α2:Type}{A1 A2:α1->α2->Prop}(x1:α1)(x2:α2)(h1:A1 x1 x2)(h2:A2 x1 x2):∃x1 x2,A1 x1 x2/\A2 x1 x2:=⟨x1,x2,h1,h2⟩
theorem vL{α1 α2 α3:Type}{A1 A2 A3 A4:α1->α2->α3->Prop}(x1:α1)(x2:α2)(x3:α3)(h1:A1 x1 x2 x3)(h2:A2 x1 x2 x3)(h3:A3 x1 x2 x3)(h4:A4 x1 x2 x3):∃x1 x2 x3,A1 x1 x2 x3/\A2 x1 x2 x3/\A3 x1 x2 x3/\A4 x1 x2 x3:=⟨x1,x2,x3,h1,h2,h3,h4⟩
theorem ro{α1 α2 α3 α4:Type}{A1 A2 A3 A4:α1->α2->α3->α4->Prop}(x1:α1)(x2:α2)(x3:α3)(x4:α4)(h1:A1 x1 x2 x3 x4)(h2:A2 x1 x2 x3 x4)(h3:A3 x1 x2 x3 x4)(h4:A4 x1 x2 x3 x4):∃x1 x2 x3 x4,A1 x1 x2 x3 x4/\A2 x1 x2 x3 x4/\A3 x1 x2 x3 x4/\A4 x1 x2 x3 x4:=⟨x1,x2,x3,x4,h1,h2,h3,h4⟩
variable{env:Env}{Y:List Addr}{l:Loc}{s:Shared}
end
section
variable{C:Cx}{n:Nat}{r:Ev}{k:Bool}{A:Around}{env:Env}{Y W:List Addr}{l:Loc}{s s' gS:Shared}{Z Z':Addr->Prop}
theorem KW.newOff{L:Addr}{h':Heap}{tk:Nat}(x:KW C Z s s')(t:jl C s.heap)(hL:s.heap.get? L=none)(oA:¬jx C s'.heap L)(ht:s'.toks<=tk)(hs:∀b o,b≠L->s'.heap.get? b=some o->h'.get? b=some o):KW C Z s { s' with heap:=h',toks:=tk }:=by
 have nj:L≠C.P:=fun e=>by
  obtain⟨ps,h1,_⟩:=t
  rw[e,h1] at hL;cases hL
 exact x.lastNew hL (KL.one ht nj oA hs) fun b e=> .inl e
theorem KP.newOff{L:Addr}{h':Heap}(x:KP C s s')(t:jl C s.heap)(hL:s.heap.get? L=none)(oA:¬jx C s'.heap L)(hs:Heap.SameBut L s'.heap h'):KP C s { s' with heap:=h' }:=by
 have nj:L≠C.P:=fun e=>by
  obtain⟨ps,h1,_⟩:=t
  rw[e,h1] at hL;cases hL
 have x':=x
 obtain⟨h2,t2,rfl,l2,k2,b2⟩:=x
 refine⟨h',t2,rfl,l2,fun b o hb e=> ?_,b2.trans (qX.one nj oA fun b o hb e=>by rw[hs.2 b hb];exact e) fun tt b hb=>x'.some tt hb⟩
 have ik:b≠L:=fun e'=>by rw[e',hL] at e;exact zn e
 rw[hs.2 b ik]
 exact k2 b o hb e
theorem KP.of_kw(x:KW C (fun _=>False) s s'):KP C s s':=by
 obtain⟨h1,t1,rfl,l1,k1,e1,b1⟩:=x
 exact⟨h1,t1,rfl,l1,fun b o hb e=>k1 b o hb (fun f=>f) e,b1⟩
theorem Pre.moreKP{L:Addr}(p:Pre C n k A env Y l s)(x:KP C s s')(hn:s.heap.get? L=none)(hI:∃o,s'.heap.get? L=some o):Pre C n k A env (L::Y) l s':=by
 have p1:Pre C n k A env Y l s':=p.kp x
 refine⟨p.bs,p.a,p.eo,p1.gr,qO _ p.hP,fun a ha=> ?_,fun a ha=> ?_,p1.fm,fun q hq=>qO _ (p.hc q hq),fun y d e=> ?_⟩
 ·rcases j0.mp ha with rfl|ha
  ·exact none_of fun⟨o,ho⟩=>by rw[p.gr.keep _ o ho] at hn;cases hn
  ·exact p.hY a ha
 ·rcases j0.mp ha with rfl|ha
  ·exact hI
  ·exact p1.hYs a ha
 ·refine jH (p.loc y d e) fun v a rv=> ?_
  refine⟨v,a.kp p.gr.tab x,Mine.R.mono (fun a o e=> ?_) rv⟩
  obtain⟨e,nn⟩:=jM e
  refine jX (x.heap (fun h=>nn (h▸p.hP)) e) fun hm=> ?_
  rcases j0.mp hm with rfl|hm
  ·rw[hn] at e;exact zn e
  ·exact nn hm
theorem oy{B:Around}{x:Str}{v:Value}{d:D}{l:Loc}{Q:Unit->Shared->Prop}(p:Pre C n k A env Y l s)(o:Own C W s.heap)(hx:env.kindOf x=some .local\/env.kindOf x=some .cell)(hW:env.locals∈W)
  (il:∀c,env.kindOf x=some .cell->env.cells.lookup x=some c->c∈W) (u6:∀a∈W,a∈Y) (hv:RD C s.heap Y v d)
  (q:∀s',KW C (·∈W) s s'->Pre C n k A env Y (jA l x d) s'->jt env s'.heap x v->(∀y u,y≠x->jt env s.heap y u->jt env s'.heap y u)->Q () s'):
  wpAny C.M B (storeName env x v) Q NE s:=by
 refine vj p.eo.kind p.eo.cells p.fm hx fun h' tk a ht ha hs mZ dD uo=> ?_
 have tU:a∈W:=by
  rcases ha with rfl|⟨h1,h2⟩
  ·exact hW
  ·exact il a h1 h2
 have vF:∃o,h'.get? a=some o:=by
  rcases ha with rfl|⟨h1,h2⟩
  ·refine ue mZ.ns fun m o es ep ho _=> ?_
   exact⟨o,ho⟩
  ·refine qU (mZ.cl _ (mem_of_lookup h2)) fun v o ho _=> ?_
   exact⟨o,ho⟩
 have kw:KW C (·∈W) s { s with heap:=h',toks:=tk }:=KW.one ht tU (o.ne a tU) (o.code a tU) (fun b o hb e=>by rw[hs.2 b hb];exact e) vF
 refine q _ kw ⟨p.bs,p.a,p.eo,p.gr.kw p.bs kw fun b z=>p.hY b (u6 b z),p.hP,p.hY,fun a ha=>kw.exs p.gr.tab (p.hYs a ha),mZ,p.hc,fun y d' hy=> ?_⟩ dD uo
 unfold jA at hy
 revert hy;refine yU (fun e hy=> ?_) fun e hy=> ?_
 ·subst e;replace hy:=j6 hy;subst hy
  exact⟨v,dD,hv.kw kw p.hP u6⟩
 ·refine jH (p.loc y d' hy) fun u hu ru=> ?_
  exact⟨u,uo y u e hu,ru.kw kw p.hP u6⟩
theorem jt.same{L:Addr}{h h':Heap}{x:Str}{v:Value}(a:jt env h x v)(hl:env.locals≠L)(hc:∀q∈env.cells,q.2≠L)(hs:Heap.SameBut L h h'):jt env h' x v:=by
 rcases a with ⟨hk,m,hn,hm⟩|⟨hk,c,xq,hv⟩
 ·exact .inl ⟨hk,m,hn.sameBut hs hl,hm⟩
 ·exact .inr ⟨hk,c,xq,hv.sameBut hs (hc _ (mem_of_lookup xq))⟩
structure kJ(C:Cx)(n:Nat)(k:Bool)(A:Around)(sc jS:Scope)(e:Expr)(gens:List Comprehension)(yi:Sem Value)(emitD:Loc->Option D)(out:List D)(dd:D)
  (o0:Obj) (gW:Addr->List Addr->Heap->List D->Prop) (emit:Addr->Env->Sem Unit):Prop where
 cl:clausesOf e=gens
 is:∀DD,vW e gens (.ref DD) (emit DD)
 acc:∀DD,uF DD (gW DD)
 em:∀DD ce,ce.scope=jR sc jS->gi C n k A ce DD (gW DD) emitD (emit DD ce)
 new:∀(s:Shared) (Q:q4),Q (.ref s.heap.objs.size) { s with heap:=s.heap.push o0 }->wpAny C.M A yi Q NE s
 live:o0.isFreed=false
 nil:∀h Y DD,h.get? DD=some o0->gW DD Y h []
 fin:∀h Y DD,gW DD Y h out->DD∉Y->DD≠sysModules->RD C h Y (.ref DD) dd
variable{jS:Scope}{e:Expr}{g:Comprehension}{gs:List Comprehension}{yi:Sem Value}{emitD:Loc->Option D}{its out:List D}{d dd:D}{o0:Obj}{gW:Addr->List Addr->Heap->List D->Prop}{emit:Addr->Env->Sem Unit}
theorem jCv{pos:Pos}{use:Option (Value->Sem Unit)}{Q:q4}(S:SE C n r)(a1:yW (n+1) A)(K:kJ C n k A env.scope jS e (g::gs) yi emitD out dd o0 gW emit)(p:Pre C n k A env Y l s)
  (h1:r.E k env.scope l g.iter=some d) (h2:ju d=some its) (ok:jm env.scope jS (g::gs)=true) (h:comp r k (jR env.scope jS) emitD (g::gs) (jL jS l) its=some out) (hlen:out.length<=lim)
  (q:∀DD L s',KP C s s'->s.heap.get? L=none->¬jx C s'.heap L->(∃m,s'.heap.Ns L m)->RD C s'.heap (L::Y) (.ref DD) dd->compPost C.M A NE use Q (.ref DD) L (.ok .next) s'):
  wpAny C.M A (comprehension e jS env pos yi false (eval g.iter env) use) Q NE s:=by
 have oc:=nO ok
 refine wpAny_comprehension_free (g:=g) (gs:=gs) K.cl (vz (oc.set g jk) env) (zZ fun q hq hf=>p.eo.cells q.1 (oc.free q hq hf)) oc.kind (fun x hx hl=>qm oc.nodup (hl▸hx)) ?_
 refine S.at p h1 fun v s1 zE p1 rv=> ?_
 refine yL p1.a.handled p1.lt rv h2 fun h' hk it=> ?_
 refine K.new _ _ ?_
 refine jH it.obj fun oi uk _=> ?_
 have vF:s1.heap.objs.size<h'.objs.size:=Heap.lt_size uk
 have hn:s1.heap.get? s1.heap.objs.size=none:=qy _
 have bQ:h'.get? h'.objs.size=none:=qy _
 have hD:s1.heap.get? h'.objs.size=none:=none_of fun⟨o,e⟩=>by rw[hk _ o e] at bQ;cases bQ
 have cz:gT C A (h'.objs.size::s1.heap.objs.size::Y) s1.heap.objs.size its (h'.push o0):=it.more (Z:=[h'.objs.size]) (fun b hb=>by replace hb:=j4.mp hb;subst hb;exact bQ) fun b o e=>wW _ e
 have u9:(h'.push o0).get? h'.objs.size=some o0:=Heap.get?_push_size _ K.live
 refine jEd (DD:=h'.objs.size) (I:=s1.heap.objs.size) (Acc:=gW h'.objs.size) S a1 oc (K.is h'.objs.size) (K.acc _) (fun ce qJ=>K.em _ ce qJ) p1 (fun b o e=>wW _ (hk b o e)) hn hD (Nat.ne_of_lt vF) ⟨_,u9⟩ cz (K.nil _ _ _ u9) h hlen fun L h4 tk s' Z ht k4 kl hZ hL oA ir hns dG=> ?_
 have kp:KP C s s':=kpNew zE p.gr.tab ht k4 kl hn hZ hL oA (Heap.SameBut.refl ..)
 have hDY:h'.objs.size∉L::Y:=fun hm=>by
  rcases j0.mp hm with e|hm
  ·exact ir e.symm
  ·obtain⟨o,e⟩:=p1.hYs _ hm;rw[hD] at e;exact zn e
 have iq:s.heap.get? L=none:=none_of fun ho=>by
  obtain⟨o,e⟩:=zE.some p.gr.tab ho
  rw[hL] at e;exact zn e
 refine q _ L s' kp iq oA hns (K.fin _ _ _ dG hDY fun e=> ?_)
 obtain⟨o,ho⟩:=Option.isSome_iff_exists.mp p.bs.sys
 have:=p1.gr.keep _ o ho
 rw[<-e,hD] at this;exact zn this
theorem RD.off{L DD:Addr}{h h5:Heap}(hs:Heap.SameBut L h h5)(x:RD C h (L::Y) (.ref DD) dd):RD C h5 Y (.ref DD) dd:=
 Mine.R.mono (fun a o e=>by
  obtain⟨e,nn⟩:=jM e
  refine jX ?_ fun hm=>nn (qO _ hm)
  rw[hs.2 a fun e'=>nn (by simp[e'])];exact e) x
theorem jCu{pos:Pos}{Q:q4}(S:SE C n r)(a1:yW (n+1) A)(K:kJ C n k A env.scope jS e (g::gs) yi emitD out dd o0 gW emit)(p:Pre C n k A env Y l s)
  (h1:r.E k env.scope l g.iter=some d) (h2:ju d=some its) (ok:jm env.scope jS (g::gs)=true) (h:comp r k (jR env.scope jS) emitD (g::gs) (jL jS l) its=some out) (hlen:out.length<=lim)
  (q:∀v s',KP C s s'->RD C s'.heap Y v dd->Q v s'):
  wpAny C.M A (comprehension e jS env pos yi false (eval g.iter env) none) Q NE s:=
 jCv S a1 K p h1 h2 ok h hlen fun DD L s' kp hL oA ⟨m,hns⟩ rd=>⟨m,hns,fun h5 hs=>q _ _ (kp.newOff p.gr.tab hL oA hs) (rd.off hs)⟩
theorem jEc{pos py:Pos}{y:Str}{Q:Unit->Shared->Prop}(S:SE C n r)(a1:yW (n+1) A)(K:kJ C n k A env.scope jS e (g::gs) yi emitD out dd o0 gW emit)(p:Pre C n k A env Y l s)
  (h1:r.E k env.scope l g.iter=some d) (h2:ju d=some its) (ok:jm env.scope jS (g::gs)=true) (h:comp r k (jR env.scope jS) emitD (g::gs) (jL jS l) its=some out) (hlen:out.length<=lim)
  (o:Own C W s.heap) (hy:env.kindOf y=some .local) (hW:env.locals∈W) (u6:∀a∈W,a∈Y)
  (q:∀s',KW C (·∈W) s s'->Pre C n k A env Y (jA l y dd) s'->(∀z u,z≠y->jt env s.heap z u->jt env s'.heap z u)->Q () s'):
  wpAny C.M A (do let _<-comprehension e jS env pos yi false (eval g.iter env) (some (assign (.Name y py) env));pure ()) Q NE s:=by
 refine wpAny_bind (wpAny_mono (jCv (Q:=fun _ s'=>KW C (·∈W) s s'/\Pre C n k A env Y (jA l y dd) s'/\(∀z u,z≠y->jt env s.heap z u->jt env s'.heap z u)) S a1 K p h1 h2 ok h hlen fun DD L s' kp hL oA ⟨m,hns⟩ rd=> ?_) (fun _ s' hq=>wpAny_pure (q s' hq.1 hq.2.1 hq.2.2)) fun _ _ x=>x.elim)
 refine(?_:wpAny C.M A (assign (.Name y py) env (.ref DD)) _ NE s')
 have ah:∃o,s'.heap.get? L=some o:=by
  refine uB hns fun o es ep ho _=> ?_;clear hns;exact⟨o,ho⟩
 have p1:Pre C n k A env (L::Y) l s':=p.moreKP kp hL ah
 have o1:Own C W s'.heap:=o.kw p.gr.tab (KP.kw kp (Z:=fun _=>False))
 have aj:L∉W:=fun hm=>by obtain⟨oo,e⟩:=o.ex L hm;rw[hL] at e;exact zn e
 have hLl:env.locals≠L:=fun e=>aj (e▸hW)
 have hLc':∀q∈env.cells,q.2≠L:=fun q hq e=>by
  refine qU (p.fm.cl q hq) fun v oo ho _=> ?_
  rw[e,hL] at ho;exact zn ho
 refine wpAny_assign_Name (oy p1 o1 (.inl hy) hW (fun c hc=>by rw[hy] at hc;cases hc) (fun a ha=>qO _ (u6 a ha)) rd fun s2 z5 p2 _ bK=> ?_)
 have rp:s2.heap.Ns L m:=hns.at fun o e=>z5.heap (jg p1.gr.tab hns) aj e
 have my:¬jx C s2.heap L:=z5.code p1.gr.tab ah oA
 refine⟨m,rp,fun h5 hs=> ?_⟩
 have kwA:KW C (·∈W) s { s2 with heap:=h5 }:=((KP.kw kp).trans z5).newOff (tk:=s2.toks) p.gr.tab hL my nL fun b o hb e=>by rw[hs.2 b hb];exact e
 refine⟨kwA,?_,fun z u hz hv=>(bK z u hz (hv.kp p.gr.tab kp)).same hLl hLc' hs⟩
 have hLe2:∃o,h5.get? L=some o\/True:=⟨jc [] 0,.inr trivial⟩
 have kl:KL C L (·=L) s2 { s2 with heap:=h5 }:=KL.one (tk:=s2.toks) nL (jg p1.gr.tab hns) my fun b o hb e=>by rw[hs.2 b hb];exact e
 exact p2.last kl p.hP (fun hm=>by obtain⟨oo,e⟩:=p.hYs L hm;rw[hL] at e;exact zn e) p.hc hLl
end
section
variable{C:Cx}{n:Nat}{r:Ev}{k:Bool}{A:Around}{env:Env}{Y W:List Addr}{l:Loc}{s s' gS:Shared}{sc jS:Scope}{elt ke ve:Expr}{gens:List Comprehension}{pos:Pos}{out:List D}
theorem kindL(S:SE C n r)(ha:∀g∈gens,g.is_async=0):kJ C n k A sc jS (.ListComp elt gens jS pos) gens (newList []) (fun l'=>r.E k (jR sc jS) l' elt) out (.list out) (jc [] 0) (cg C)
  (fun DD ce=>do let _<-call (.builtin "list.append") [.ref DD,<-eval elt ce]) where
 cl:=rfl
 is:=fun DD=>vk ha
 acc:=fun DD=>accL C DD
 em:=fun DD ce qJ=>emitL S qJ
 new:=fun s Q h=>wpAny_newList h
 live:=rfl
 nil:=fun h Y DD ho=>⟨[],0,ho,.nil⟩
 fin:=fun h Y DD ⟨vs,m,ho,rs⟩ hY _=> .list (jX ho hY) rs
theorem kindDS(S:SE C n r)(ha:∀g∈gens,g.is_async=0){m0:xO}(hm0:dictS? [] out=some m0):kJ C n k A sc jS (.DictComp ke ve gens jS pos) gens newDict (uJ r k (jR sc jS) ke ve) out (.dictS m0) { cls:= .type "dict",data:= .dict #[] } (pY C)
  (fun DD ce=>do
   let kv<-eval ke ce
   let vv<-holding [kv] (eval ve ce)
   standAt { ke.pos with endLine:=ve.pos.endLine,endCol:=ve.pos.endCol }
   holding [kv,vv] (dictSet DD kv vv)) where
 cl:=rfl
 is:=fun DD=>jE1 ha
 acc:=fun DD=>accDS C DD
 em:=fun DD ce qJ=>emitDS S qJ
 new:=fun s Q h=>wpAny_newObj_type h
 live:=rfl
 nil:=fun h Y DD ho=>⟨_,[],[],[],ho,by
  refine jH (Heap.dictOf_iff.mp (Heap.DictOf.new (knd:=strKind C.prog C.w) h)) fun od u9 br=> ?_
  rw[Heap.get?_push_size _ rfl] at u9
  replace u9:=j6 u9;subst u9;exact br,rfl,.nil,rfl,Nat.le_refl _⟩
 fin:=fun h Y DD ⟨o,ks,vs,ds,ho,hio,hl,rs,wq,_⟩ hY hs=>by
  rw[hm0] at wq;replace wq:=j6 wq;subst wq
  exact .dictS (jX ho hY) hio hl rs hs
noncomputable def k9:Expr->Bool
 | .ListComp .. =>true
 | .DictComp .. =>true
 | .SetComp .. =>true
 |_=>false
def SU(C:Cx)(n:Nat)(r:Ev):Prop:=∀(k:Bool) (A:Around) (env:Env) (Y W:List Addr) (l:Loc) (e:Expr) (d:D) (y:Str) (py:Pos) (s:Shared) (Q:Unit->Shared->Prop),
 Pre C n k A env Y l s->k9 e=true->Own C W s.heap->env.kindOf y=some .local->env.locals∈W->(∀a∈W,a∈Y)->r.E k env.scope l e=some d->
 (∀s',KW C (·∈W) s s'->Pre C n k A env Y (jA l y d) s'->(∀z u,z≠y->jt env s.heap z u->jt env s'.heap z u)->Q () s')->wpAny C.M A (evalThenUse e env (assign (.Name y py) env)) Q NE s
def SF(C:Cx)(n:Nat)(r:Ev):Prop:=∀(k:Bool) (A:Around) (env:Env) (Y:List Addr) (l:Loc) (e:Expr) (ds:List D) (s:Shared) (Q:q4),
 Pre C n k A env Y l s->zj e=true->r.E k env.scope l e=some (.list ds)->
 (∀a vs s',KP C s s'->s.heap.get? a=none->s'.heap.get? a=some (jc vs 0)->¬jx C s'.heap a->q5 C s'.heap (a::Y) vs ds->Q (.ref a) s')->wpAny C.M A (eval e env) Q NE s
theorem eTU_l{use:Value->Sem Unit}:evalThenUse (.ListComp elt gens jS pos) env use=(do let _<-comprehension (.ListComp elt gens jS pos) jS env (firstIterPos gens pos) (newList []) (firstAsync gens) (firstIter gens env) (some use)):=rfl
theorem eTU_d{use:Value->Sem Unit}:evalThenUse (.DictComp ke ve gens jS pos) env use=(do let _<-comprehension (.DictComp ke ve gens jS pos) jS env (firstIterPos gens pos) newDict (firstAsync gens) (firstIter gens env) (some use)):=rfl
theorem SU_step{fns:List (Str×Fn)}{glob:xO}(S:SE C n r):SU C (n+1) ⟨xc fns glob r,fun k=>vQ r k n⟩:=by
 intro k A env Y W l e d y py s Q p hc o hy hW u6 h q
 have p':=p.mono (Nat.le_succ n)
 have a1:=p.a
 have q':∀s',KW C (·∈W) s s'->Pre C n k A env Y (jA l y d) s'->(∀z u,z≠y->jt env s.heap z u->jt env s'.heap z u)->Q () s':=fun s' kw p2 hk=>q s' kw ⟨p2.bs,p.a,p2.eo,p2.gr,p2.hP,p2.hY,p2.hYs,p2.fm,p2.hc,p2.loc⟩ hk
 induction e using cE with
 |ListComp elt gens jS pos=>
  induction gens using cL with
  |nil=>exact nn h
  |cons g gs=>
   refine bE (show Option.bind ((r.E k env.scope l g.iter).bind ju) _=some d from h) fun its h1 h=> ?_
   refine bE h1 fun d1 h1 h2=> ?_
   revert h;refine wL fun ok h=> ?_
   ·refine bE h fun out h3 h=> ?_
    revert h;refine wL fun hlen h=> ?_
    ·replace h:=j6 h;subst h
     have oc:=nO ok
     have tR:firstAsync (g::gs)=false:=by
      have h0:=oc.sync g jk
      cases g;simp only at h0;subst h0;rfl
     have tQ:firstIter (g::gs) env=eval g.iter env:=by cases g;rfl
     rw[eTU_l,tR,tQ]
     exact jEc S a1 (kindL S fun g hg=>oc.sync g hg) p' h1 h2 ok h3 hlen o hy hW u6 q'
 |SetComp elt gens jS pos=>exact nn h
 |DictComp ke ve gens jS pos=>
  induction gens using cL with
  |nil=>exact nn h
  |cons g gs=>
   induction gs using cL with
   |cons _ _=>exact nn h
   |nil=>
    refine bE (show Option.bind ((r.E k env.scope l g.iter).bind ju) _=some d from h) fun its h1 h=> ?_
    refine bE h1 fun d1 h1 h2=> ?_
    revert h;refine wL fun ok h=> ?_
    ·have oc:=nO ok
     have tR:firstAsync [g]=false:=by
      have h0:=oc.sync g jk
      cases g;simp only at h0;subst h0;rfl
     have tQ:firstIter [g] env=eval g.iter env:=by cases g;rfl
     rw[eTU_d,tR,tQ]
     refine bE h fun ps h3 h=> ?_
     revert h;refine wL fun hlen h=> ?_
     ·refine mE h ?_;rintro m0 hm rfl
      exact jEc S a1 (kindDS S (fun g hg=>oc.sync g hg) hm) p' h1 h2 ok h3 hlen o hy hW u6 q'
 |_=>exact ff hc
noncomputable abbrev q6(OL:yV):List Addr:=OL.map (·.2)
noncomputable abbrev ZO(OL:yV)(env:Env):Addr->Prop:=fun b=>b∈q6 OL++jB env
end
section
variable{C:Cx}{n:Nat}{r:Ev}{k:Bool}{A:Around}{env:Env}{Y W:List Addr}{OL N:yV}{l l':jQ}{s s' gS s1:Shared}{Z Z':Addr->Prop}
theorem KW.transNew(x:KW C Z s s')(y:KW C Z' s' gS)(h:∀b,Z' b->Z b\/s.heap.get? b=none):KW C Z s gS:=by
 have x':=x
 obtain⟨h1,t1,rfl,l1,k1,e1,b1⟩:=x
 obtain⟨h2,t2,rfl,l2,k2,e2,b2⟩:=y
 refine⟨h2,t2,rfl,xJ l1 l2,fun b o hb hz e=>k2 b o hb (fun z=> ?_) (k1 b o hb hz e),fun b hb h=>e2 b hb (e1 b hb h),b1.trans b2 fun t b h=>x'.exs t h⟩
 rcases h b z with h|h
 ·exact hz h
 ·rw[h] at e;exact zn e
structure FS(C:Cx)(n:Nat)(k:Bool)(A:Around)(env:Env)(Y:List Addr)(OL:yV)(l:jQ)(s:Shared):Prop where
 pre:Pre C n k A env (q6 OL++Y) (jV l) s
 hP:C.P∈Y
 cY:∀p∈env.cells,p.2∈Y
 own:Own C (q6 OL++jB env) s.heap
 wY:∀a∈jB env,a∈Y
 nY:∀p∈OL,p.2∉Y
 ap:OL.Pairwise fun p q=>p.2≠q.2
 cw:∀x c,env.kindOf x=some .cell->env.cells.lookup x=some c->c∈jB env
 lst:∀x ds,l x=some (.own ds)->∃a vs m,(x,a)∈OL/\jt env s.heap x (.ref a)/\s.heap.get? a=some (jc vs m)/\q5 C s.heap (q6 OL++Y) vs ds
theorem ZO.sub{b:Addr}(wY:∀a∈jB env,a∈Y)(h:ZO OL env b):b∈q6 OL++Y:=by
 rcases jq.mp h with h|h
 ·exact xn _ h
 ·exact jz _ (wY b h)
def ExcPost(C:Cx)(env:Env)(Z:Addr->Prop)(Y:List Addr)(c:Str)(d:D)(s:Shared)(E:q4):Prop:=
 ∀e t cl v s',KW C Z s s'->s.heap.get? e=none->C.mg c=some (.ref cl)->s'.heap.get? e=some { cls:= .ref cl,data:= .fields #[.ref t,.none,.none,.none,.bool false,.none] }->
  s.heap.get? t=none->s'.heap.get? t=some { cls:= .type "tuple",data:= .seq #[v] }->RD C s'.heap Y v d->(∃m,s'.heap.Ns env.locals m)->E (.ref e) s'
def qa(C:Cx)(n:Nat)(k:Bool)(A:Around)(env:Env)(Y:List Addr)(OL:yV)(l':jQ)(s:Shared)(Q:Shared->Prop):Prop:=
 ∀s' N,(∀p∈N,s.heap.get? p.2=none)->KW C (ZO OL env) s s'->FS C n k A env Y (N++OL) l' s'->Q s'
def y9(C:Cx)(n:Nat)(k:Bool)(A:Around)(env:Env)(Y:List Addr)(OL:yV)(f:Fl)(l':jQ)(s:Shared)(Q:vo)(E:q4):Prop:=
 match f with
 | .next=>qa C n k A env Y OL l' s (Q .next)
 | .brk=>qa C n k A env Y OL l' s (Q .brk)
 | .ret d=>∀v s',KW C (ZO OL env) s s'->RD C s'.heap Y v d->Q (.ret v) s'
 | .exc c d=>ExcPost C env (ZO OL env) Y c d s E
def SS(C:Cx)(n:Nat)(r:Ev):Prop:=∀(k:Bool) (A:Around) (env:Env) (Y:List Addr) (OL:yV) (l:jQ) (st:Stmt) (f:Fl) (l':jQ) (s:Shared) (Q:vo) (E:q4),
 FS C n k A env Y OL l s->r.S k env.scope l st=some (f,l')->y9 C n k A env Y OL f l' s Q E->wpAny C.M A (exec st env) Q E s
structure wt(C:Cx)(n:Nat)(r:Ev):Prop where
 E:SE C n r
 U:SU C n r
 F:SF C n r
 S:SS C n r
theorem xX(x:KW C Z s s')(t:jl C s.heap){a:Addr}(h:s'.heap.get? a=none):s.heap.get? a=none:=none_of fun ho=>by
 obtain⟨o,e⟩:=x.exs t ho
 rw[h] at e;exact zn e
theorem vP(hN:∀p∈N,s.heap.get? p.2=none)(b:Addr)(h:ZO (N++OL) env b):ZO OL env b\/s.heap.get? b=none:=by
 rcases jq.mp h with h|h
 ·rw[q6,List.map_append] at h
  rcases jq.mp h with h|h
  ·refine lE h ?_;rintro p hp rfl
   exact .inr (hN p hp)
  ·exact .inl (xn _ h)
 ·exact .inl (jz _ h)
theorem qa.step{Q:Shared->Prop}(t:jl C s.heap)(hN:∀p∈N,s.heap.get? p.2=none)(kw:KW C (ZO OL env) s s1)(h:qa C n k A env Y OL l' s Q):qa C n k A env Y (N++OL) l' s1 Q:=by
 intro s' N' hN' so fs
 refine h s' (N'++N) (fun p hp=> ?_) (kw.transNew so (vP hN)) (by rw[List.append_assoc];exact fs)
 rcases jq.mp hp with hp|hp
 ·exact xX kw t (hN' p hp)
 ·exact hN p hp
theorem y9.step{f:Fl}{Q:vo}{E:q4}(t:jl C s.heap)(hN:∀p∈N,s.heap.get? p.2=none)(kw:KW C (ZO OL env) s s1)(h:y9 C n k A env Y OL f l' s Q E):y9 C n k A env Y (N++OL) f l' s1 Q E:=by
 induction f using cF with
 |next=>exact qa.step t hN kw h
 |brk=>exact qa.step t hN kw h
 |ret d=>exact fun v s' so rd=>h v s' (kw.transNew so (vP hN)) rd
 |exc c d=>exact fun e tt cl v s' so he hc ho ht nT rd hns=>h e tt cl v s' (kw.transNew so (vP hN)) (xX kw t he) hc ho (xX kw t ht) nT rd hns
theorem FS.kp(fs:FS C n k A env Y OL l s)(x:KP C s s'):FS C n k A env Y OL l s' where
 pre:=fs.pre.kp x
 hP:=fs.hP
 cY:=fs.cY
 own:=fs.own.kw fs.pre.gr.tab (KP.kw x (Z:=fun _=>False))
 wY:=fs.wY
 nY:=fs.nY
 ap:=fs.ap
 cw:=fs.cw
 lst:=fun y ds hy=>by
  refine yz (fs.lst y ds hy) fun a vs m h1 h2 h3 h4=> ?_
  have dH:a≠C.P:=fs.own.ne a (xn _ (List.mem_map_of_mem (f:=(·.2)) h1))
  exact vL a vs m h1 (h2.kp fs.pre.gr.tab x) (x.heap dH h3) (h4.kp x fs.pre.hP)
theorem y9.kp{f:Fl}{Q:vo}{E:q4}(t:jl C s.heap)(kp:KP C s s1)(h:y9 C n k A env Y OL f l' s Q E):y9 C n k A env Y OL f l' s1 Q E:=
 y9.step (N:=[]) t (fun p hp=>by cases hp) kp.kw h
set_option tactic.hygienic true in
theorem FS.all(fs:FS C n k A env Y OL l s):Pre C n k A env Y (qx l) s where
 bs:=fs.pre.bs
 a:=fs.pre.a
 eo:=fs.pre.eo
 gr:=fs.pre.gr
 hP:=fs.hP
 hY:=fun a ha=>fs.pre.hY a (jz _ ha)
 hYs:=fun a ha=>fs.pre.hYs a (jz _ ha)
 fm:=fs.pre.fm
 hc:=fs.cY
 loc:=fun x d hx=>by
  have hs:∀a o,view s.heap (q6 OL++Y) a=some o->view s.heap Y a=some o:=jh fun a ha=>jz _ ha
  unfold qx at hx
  split at hx
  ·rename_i d' e
   cases (hx)
   refine jH (fs.pre.loc x d (by unfold jV;rw[e])) fun v a rv=> ?_
   exact⟨v,a,Mine.R.mono hs rv⟩
  ·rename_i ds e
   cases (hx)
   refine yz (fs.lst x ds e) fun a vs m h1 h2 h3 h4=> ?_
   exact⟨_,h2,.list (jX h3 (fs.nY _ h1)) (Rs.mono hs h4)⟩
  ·cases (hx)
set_option tactic.hygienic true in
theorem xY(S:SS C n r)(ss:List Stmt):∀(OL:yV) (l l':jQ) (f:Fl) (s:Shared) (Q:vo) (E:q4),FS C n k A env Y OL l s->qV r k env.scope l ss=some (f,l')->y9 C n k A env Y OL f l' s Q E->wpAny C.M A (execs ss env) Q E s:=by
 induction ss with
 |nil=>
  intro OL l l' f s Q E fs h q
  replace h:some (Fl.next,l)=some (f,l'):=h
  cases (h)
  exact wpAny_execs_nil (q s [] (fun p hp=>by cases (hp)) (KW.refl s) fs)
 |cons st ss ih=>
  intro OL l l' f s Q E fs h q
  refine bE (show (r.S k env.scope l st).bind _=some (f,l') from h) ?_;rintro ⟨f1,l1⟩ h1 h2
  refine wpAny_execs_cons ?_
  have t:=fs.pre.gr.tab
  cases (f1) with
  |next=>
   refine S k A env Y OL l st .next l1 s _ E fs h1 fun s1 N hN kw qP=> ?_
   exact ih (N++OL) l1 l' f s1 Q E qP h2 (q.step t hN kw)
  |brk=>cases (h2);exact S k A env Y OL l st .brk l' s _ E fs h1 q
  |ret d=>cases (h2);exact S k A env Y OL l st (.ret d) l' s _ E fs h1 q
  |exc c d=>cases (h2);exact S k A env Y OL l st (.exc c d) l' s _ E fs h1 q
theorem FS.lo{m:Nat}(fs:FS C n k A env Y OL l s)(h:m<=n):FS C m k A env Y OL l s:=⟨fs.pre.mono h,fs.hP,fs.cY,fs.own,fs.wY,fs.nY,fs.ap,fs.cw,fs.lst⟩
theorem FS.hi{m:Nat}(fs:FS C m k A env Y OL l s)(a:yW n A):FS C n k A env Y OL l s:=
 ⟨⟨fs.pre.bs,a,fs.pre.eo,fs.pre.gr,fs.pre.hP,fs.pre.hY,fs.pre.hYs,fs.pre.fm,fs.pre.hc,fs.pre.loc⟩,fs.hP,fs.cY,fs.own,fs.wY,fs.nY,fs.ap,fs.cw,fs.lst⟩
theorem qa.lo{m:Nat}{Q:Shared->Prop}(a:yW n A)(h:qa C n k A env Y OL l' s Q):qa C m k A env Y OL l' s Q:=fun s' N hN kw fs=>h s' N hN kw (fs.hi a)
theorem y9.lo{m:Nat}{f:Fl}{Q:vo}{E:q4}(a:yW n A)(h:y9 C n k A env Y OL f l' s Q E):y9 C m k A env Y OL f l' s Q E:=by
 induction f using cF with
 |next=>exact qa.lo a h
 |brk=>exact qa.lo a h
 |ret d=>exact h
 |exc c d=>exact h
theorem FS.frame_notOwn(fs:FS C n k A env Y OL l s){x:Str}{a:Addr}(h:(x,a)∈OL):a∉jB env:=fun hm=>fs.nY _ h (fs.wY a hm)
theorem FS.assign{B:Around}{x:Str}{v:Value}{d:D}{Q:Unit->Shared->Prop}(fs:FS C n k A env Y OL l s)(hx:env.kindOf x=some .local\/env.kindOf x=some .cell)(hv:RD C s.heap (q6 OL++Y) v d)
  (q:∀s',KW C (ZO OL env) s s'->FS C n k A env Y OL (jA l x (.val d)) s'->Q () s'):wpAny C.M B (storeName env x v) Q NE s:=by
 have own:Own C (jB env) s.heap:=fs.own.sub fun a ha=>jz _ ha
 have mO:∀a∈jB env,a∈q6 OL++Y:=fun a ha=>jz _ (fs.wY a ha)
 refine oy fs.pre own hx jk (fun c h1 h2=>fs.cw x c h1 h2) mO hv fun s' kw p2 lM hk=> ?_
 have sj:KW C (ZO OL env) s s':=kw.mono fun b hb=>jz _ hb
 refine q s' sj ⟨p2.weak fun y dy e=> ?_,fs.hP,fs.cY,fs.own.kw fs.pre.gr.tab kw,fs.wY,fs.nY,fs.ap,fs.cw,fun y ds hy=> ?_⟩
 ·unfold jV jA at e
  unfold jA
  by_cases h:y=x
  ·subst h;simp at e;subst e;simp
  ·rw[if_neg h] at e ⊢;exact e
 ·unfold jA at hy
  revert hy;refine yU (fun _ hy=> ?_) fun jv hy=> ?_
  ·cases hy
  ·refine yz (fs.lst y ds hy) fun a vs m h1 h2 h3 h4=> ?_
   have hn:=fs.frame_notOwn h1
   have dH:a≠C.P:=fs.own.ne a (xn _ (List.mem_map_of_mem (f:=(·.2)) h1))
   exact vL a vs m h1 (hk y _ jv h2) (kw.heap dH hn h3) (h4.kw kw fs.pre.hP mO)
theorem FS.assignOwn{x:Str}{a:Addr}{vs:List Value}{m:Nat}{ds:List D}{Q:Unit->Shared->Prop}(fs:FS C n k A env Y OL l s)(kp:KP C s s1)(hx:env.kindOf x=some .local\/env.kindOf x=some .cell)
  (hn:s.heap.get? a=none) (ho:s1.heap.get? a=some (jc vs m)) (hc:¬jx C s1.heap a) (hr:q5 C s1.heap (a::(q6 OL++Y)) vs ds)
  (q:∀s',KW C (ZO OL env) s s'->FS C n k A env Y ((x,a)::OL) (jA l x (.own ds)) s'->Q () s'):wpAny C.M A (storeName env x (.ref a)) Q NE s1:=by
 have ng:a∉q6 OL++Y:=fun hm=>by obtain⟨o,e⟩:=fs.pre.hYs a hm;rw[hn] at e;exact zn e
 have p1:Pre C n k A env (a::(q6 OL++Y)) (jV l) s1:=fs.pre.moreKP kp hn ⟨_,ho⟩
 have qP:=fs.kp kp
 have own:Own C (jB env) s1.heap:=qP.own.sub fun a ha=>jz _ ha
 have tU:a∉jB env:=fun hm=>ng (jz _ (fs.wY a hm))
 have mO:∀b∈jB env,b∈a::(q6 OL++Y):=fun b hb=>qO _ (jz _ (fs.wY b hb))
 have fF:a≠C.P:=fun e=>by obtain⟨o,ho'⟩:=fs.pre.hYs C.P fs.pre.hP;rw[<-e,hn] at ho';exact zn ho'
 refine oy (d:= .opq (.ref a)) p1 own hx jk (fun c h1 h2=>fs.cw x c h1 h2) mO (.opq _) fun s' kw p2 lM hk=> ?_
 have sj:KW C (ZO OL env) s s':=(KP.kw kp (Z:=ZO OL env)).trans (kw.mono fun b hb=>jz _ hb)
 have ua:s'.heap.get? a=some (jc vs m):=kw.heap fF tU ho
 refine q s' sj ⟨p2.weak fun y dy e=> ?_,fs.hP,fs.cY,⟨fun b hb=> ?_,fun b hb=> ?_,fun b hb=> ?_⟩,fs.wY,fun p hp=> ?_,List.pairwise_cons.mpr ⟨fun p hp e=> ?_,fs.ap⟩,fs.cw,fun y dy hy=> ?_⟩
 ·unfold jV jA at e
  unfold jA
  by_cases h:y=x
  ·subst h;simp at e
  ·rw[if_neg h] at e ⊢;exact e
 ·rcases j0.mp hb with rfl|hb
  ·exact fF
  ·exact qP.own.ne b hb
 ·rcases j0.mp hb with rfl|hb
  ·exact kw.code qP.pre.gr.tab ⟨_,ho⟩ hc
  ·exact kw.code qP.pre.gr.tab (qP.own.ex b hb) (qP.own.code b hb)
 ·rcases j0.mp hb with rfl|hb
  ·exact⟨_,ua⟩
  ·exact kw.exs qP.pre.gr.tab (qP.own.ex b hb)
 ·rcases j0.mp hp with rfl|hp
  ·exact fun hm=>ng (jz _ hm)
  ·exact fs.nY p hp
 ·exact ng (xn _ (by have e':a=p.2:=e;rw[e'];exact List.mem_map_of_mem (f:=(·.2)) hp))
 ·unfold jA at hy
  revert hy;refine yU (fun e hy=> ?_) fun jv hy=> ?_
  ·subst e;cases hy
   exact vL a vs m jk lM ua (q5.kw kw (qO _ fs.pre.hP) mO hr)
  ·refine yz (fs.lst y dy hy) fun b ws m' h1 h2 h3 h4=> ?_
   have hb:=fs.frame_notOwn h1
   have dH:b≠C.P:=fs.own.ne b (xn _ (List.mem_map_of_mem (f:=(·.2)) h1))
   refine vL b ws m' (qO _ h1) (hk y _ jv (h2.kp fs.pre.gr.tab kp)) (kw.heap dH hb (kp.heap dH h3)) ?_
   have hv:q5 C s1.heap (a::(q6 OL++Y)) ws dy:=Rs.mono (fun z o e=>by
    obtain⟨e,nn⟩:=jM e
    refine jX (kp.heap (fun e'=>nn (e'▸fs.pre.hP)) e) fun hm=> ?_
    rcases j0.mp hm with rfl|hm
    ·rw[hn] at e;exact zn e
    ·exact nn hm) h4
   exact q5.kw kw (qO _ fs.pre.hP) mO hv
theorem FS.grow{x:Str}{a:Addr}{us:List Value}{m':Nat}{es:List D}{h':Heap}(fs:FS C n k A env Y OL l s)(ha:(x,a)∈OL)(hv:jt env s.heap x (.ref a))(ho:h'.get? a=some (jc us m'))(hr:q5 C s.heap (q6 OL++Y) us es)(hs:Heap.SameBut a s.heap h')(tk:Nat)(ht:s.toks<=tk):
  KW C (ZO OL env) s { s with heap:=h',toks:=tk }/\FS C n k A env Y OL (jA l x (.own es)) { s with heap:=h',toks:=tk }:=by
 have hm:a∈q6 OL:=List.mem_map_of_mem (f:=(·.2)) ha
 have iU:a∈q6 OL++jB env:=xn _ hm
 have fF:=fs.own.ne a iU
 have kw:KW C (·=a) s { s with heap:=h',toks:=tk }:=KW.one ht rfl fF (fs.own.code a iU) (fun b o hb e=>by rw[hs.2 b hb];exact e) ⟨_,ho⟩
 have hZ:∀b,b=a->b∈q6 OL++Y:=fun b e=>e▸xn _ hm
 have tU:=fs.frame_notOwn ha
 have sP:¬env.locals=a:=fun e=>tU (e▸jk)
 have dG:∀p∈env.cells,¬p.2=a:=fun p hp e=>fs.nY _ ha (e▸fs.cY p hp)
 refine⟨kw.mono fun b e=>e▸iU,(fs.pre.kw kw hZ sP dG).weak fun y dy e=> ?_,fs.hP,fs.cY,fs.own.kw fs.pre.gr.tab kw,fs.wY,fs.nY,fs.ap,fs.cw,fun y dy hy=> ?_⟩
 ·unfold jV jA at e
  unfold jV
  by_cases h:y=x
  ·subst h;simp at e
  ·rw[if_neg h] at e;exact e
 ·unfold jA at hy
  revert hy;refine yU (fun e hy=> ?_) fun jv hy=> ?_
  ·subst e;cases hy
   exact vL a us m' ha (hv.kw fs.pre.gr.tab kw sP dG) ho (q5.kw kw fs.pre.hP hZ hr)
  ·refine yz (fs.lst y dy hy) fun b ws2 m2 h1 h2 h3 h4=> ?_
   have mW:b≠a:=by
    have key:∀(OL:yV),OL.Pairwise (fun p q=>p.2≠q.2)->(y,b)∈OL->(x,a)∈OL->b=a->False:=by
     intro OL
     induction OL with
     |nil=>intro _ h;cases h
     |cons q qs ih=>
      intro hp h1 h2 e
      obtain⟨hq,hp⟩:=List.pairwise_cons.mp hp
      rcases j0.mp h1 with e1|h1'
      ·rcases j0.mp h2 with e2|h2'
       ·rw[<-e1] at e2;cases e2;exact jv rfl
       ·subst e1;exact hq (x,a) h2' e
      ·rcases j0.mp h2 with e2|h2'
       ·subst e2;exact hq (y,b) h1' e.symm
       ·exact ih hp h1' h2' e
    exact fun e=>key OL fs.ap h1 ha e
   have dH:b≠C.P:=fs.own.ne b (xn _ (List.mem_map_of_mem (f:=(·.2)) h1))
   exact vL b ws2 m2 h1 (h2.kw fs.pre.gr.tab kw sP dG) (kw.heap dH mW h3) (q5.kw kw fs.pre.hP hZ h4)
theorem jBb{x:Str}{a:Addr}{vs:List Value}{m:Nat}{xp ap cp:Pos}{meth:Str}{id:String}{arg:Expr}{Q:q4}{l:Loc}(p:Pre C n k A env Y l s)(hv:jt env s.heap x (.ref a))(ho:s.heap.get? a=some (jc vs m))
  (vG:(ap.endLine==cp.line)=true) (xo:isStarred arg=false) (hx1:(x==("__debug__":Str))=false) (mM:(x==("__classdict__":Str))=false) (slot:Slot "list" meth id) (ty:typeOf (.builtin id)=pure (.type "method_descriptor"))
  (h:wpAny C.M A (eval arg env) (fun v s'=>wpAny C.M A (call (.builtin id) [.ref a,v]) Q NE s') NE s):
  wpAny C.M A (eval (.Call (.Attribute (.Name x xp) meth ap) [arg] [] cp) env) Q NE s:=by
 refine Call_method1 rfl (jN xo) vG ?_
 refine pW p hv hx1 mM ?_
 refine⟨"list",id,PySem.F.plainAttrs_list,slot,ty,⟨_,ho,rfl⟩,fun b e=>by cases e;exact⟨_,ho,rfl⟩,?_⟩
 refine callWith_builtin rfl (evalArgs_plain (spliced_cons (wpAny_mono h (fun v s' h'=>spliced_nil ?_) fun _ _ x=>x)))
 exact h'
variable{Y' J:List Addr}{s2:Shared}
inductive KJ (C:Cx) (J:List Addr) (s s':Shared):Prop
 |mk:∀h' tk,s'={ s with heap:=h',toks:=tk }->s.toks<=tk->((∀b o,b∉J->s.heap.get? b=some o->h'.get? b=some o))->qX C s.heap h'->KJ C J s s'
theorem qX.many{h h':Heap}(hP:∀a∈J,a≠C.P)(hc:∀a∈J,¬jx C h a)(k:∀b o,b∉J->h.get? b=some o->h'.get? b=some o):qX C h h':=fun x=>by
 obtain⟨ps,h1,h2,h3⟩:=x
 have h1':=k _ _ (fun hm=>hP _ hm rfl) h1
 refine⟨⟨ps,h1',h2,fun pos cv e=> ?_⟩,fun c hc'=> ?_⟩
 ·refine oN (h3 pos cv e) ?_;rintro c o vs t rfl ho hd
  exact⟨c,o,vs,t,rfl,k _ _ (fun hm=>hc c hm ⟨ps,pos,h1,e⟩) ho,hd⟩
 ·refine qU hc' fun tA pos e1 e2=> ?_;clear hc'
  rw[h1'] at e1;cases e1
  exact .inl ⟨ps,pos,h1,e2⟩
theorem KJ.of{h':Heap}{tk:Nat}(ht:s.toks<=tk)(hP:∀a∈J,a≠C.P)(hc:∀a∈J,¬jx C s.heap a)(k:∀b o,b∉J->s.heap.get? b=some o->h'.get? b=some o):KJ C J s { s with heap:=h',toks:=tk }:=
 ⟨h',tk,rfl,ht,k,qX.many hP hc k⟩
theorem KW.many{h':Heap}{tk:Nat}(ht:s.toks<=tk)(hP:∀a∈J,a≠C.P)(hc:∀a∈J,¬jx C s.heap a)(k:∀b o,b∉J->s.heap.get? b=some o->h'.get? b=some o)(ho:∀a∈J,∃o,h'.get? a=some o):KW C (·∈J) s { s with heap:=h',toks:=tk }:=
 ⟨h',tk,rfl,ht,fun b o _ hz e=>k b o hz e,fun b _ ⟨o,e⟩=>by
  by_cases hb:b∈J
  ·exact ho b hb
  ·exact⟨o,k b o hb e⟩,qX.many hP hc k⟩
theorem KW.lastJ(x:KW C Z s s1)(hJ:∀b∈J,s.heap.get? b=none)(y:KJ C J s1 s2)(h:∀b,Z b->Z' b\/b∈J):KW C Z' s s2:=by
 have x':=x
 obtain⟨h1,t1,rfl,l1,k1,e1,b1⟩:=x
 obtain⟨h2,t2,rfl,l2,k2,b2⟩:=y
 have ne:∀b o,s.heap.get? b=some o->b∉J:=fun b o e hm=>by rw[hJ b hm] at e;exact zn e
 refine⟨h2,t2,rfl,xJ l1 l2,fun b o hb hz e=>k2 b o (ne b o e) (k1 b o hb (fun z=>(h b z).elim hz (ne b o e)) e),fun b hb ⟨o,ho⟩=> ?_,b1.trans b2 fun t b h=>x'.exs t h⟩
 obtain⟨o',ho'⟩:=e1 b hb ⟨o,ho⟩
 exact⟨o',k2 b o' (ne b o ho) ho'⟩
theorem KJ.refl(s:Shared):KJ C J s s:=⟨s.heap,s.toks,rfl,Nat.le_refl _,fun _ _ _ e=>e,.keeps fun _ _ e=>e⟩
theorem KJ.heap(x:KJ C J s s'){b:Addr}{o:Obj}(hb:b∉J)(e:s.heap.get? b=some o):s'.heap.get? b=some o:=by
 obtain⟨h1,t1,rfl,l1,k1,b1⟩:=x
 exact k1 b o hb e
theorem KJ.tabTo(x:KJ C J s s'):qX C s.heap s'.heap:=by
 obtain⟨h1,t1,rfl,l1,k1,b1⟩:=x
 exact b1
theorem KJ.toks(x:KJ C J s s'):s.toks<=s'.toks:=by
 obtain⟨h1,t1,rfl,l1,k1,b1⟩:=x
 exact l1
theorem jt.kj{x:Str}{v:Value}(a:jt env s.heap x v)(hl:env.locals∉J)(hc:∀q∈env.cells,q.2∉J)(y:KJ C J s s'):jt env s'.heap x v:=by
 rcases a with ⟨hk,m,hn,hm⟩|⟨hk,c,xq,hv⟩
 ·exact .inl ⟨hk,m,hn.at fun o e=>y.heap hl e,hm⟩
 ·refine jH (id hv) fun o ho hd=> ?_
  exact .inr ⟨hk,c,xq,o,y.heap (hc _ (mem_of_lookup xq)) ho,hd⟩
theorem Pre.lastJ{l:Loc}(p:Pre C n k A env Y' l s)(x:KJ C J s s')(qQ:∀a∈Y,a∈Y')(hJ:∀a∈J,a∈Y'/\a∉Y)(hP:C.P∈Y)(hc:∀p∈env.cells,p.2∈Y)(hl:env.locals∉J):Pre C n k A env Y l s':=by
 have ci:∀p∈env.cells,p.2∉J:=fun q hq hm=>(hJ _ hm).2 (hc q hq)
 have t:=p.gr.tab
 have tt:=x.tabTo t
 refine⟨p.bs,p.a,p.eo,⟨fun b o e=>x.heap (fun hm=>by rw[p.hY b (hJ b hm).1] at e;exact zn e) (p.gr.keep b o e),tt.1,fun e=>Nat.lt_of_lt_of_le (p.gr.toks e) x.toks⟩,hP,fun a ha=>p.hY a (qQ a ha),fun a ha=> ?_,?_,hc,?_⟩
 ·obtain⟨o,ho⟩:=p.hYs a (qQ a ha)
  exact⟨o,x.heap (fun hm=>(hJ a hm).2 ha) ho⟩
 ·obtain⟨⟨m,hn⟩,xq,ha⟩:=p.fm
  refine⟨⟨m,hn.at fun o e=>x.heap hl e⟩,fun q hq=> ?_,ha⟩
  obtain⟨v,hv⟩:=xq q hq
  refine jH (id hv) fun o ho hd=> ?_
  exact oM v o (x.heap (ci q hq) ho) hd
 ·intro y d hy
  refine jH (p.loc y d hy) fun v a rv=> ?_
  refine⟨v,a.kj hl ci x,Mine.R.mono (fun a o e=> ?_) rv⟩
  obtain⟨e,nn⟩:=jM e
  exact jX (x.heap (fun hm=>nn (hJ a hm).1) e) fun hm=>nn (qQ a hm)
theorem q5.lastJ{vs:List Value}{ds:List D}(x:KJ C J s s')(qQ:∀a∈Y,a∈Y')(hJ:∀a∈J,a∈Y')(h:q5 C s.heap Y' vs ds):q5 C s'.heap Y vs ds:=
 Rs.mono (fun a o e=>by
  obtain⟨e,nn⟩:=jM e
  exact jX (x.heap (fun hm=>nn (hJ a hm)) e) fun hm=>nn (qQ a hm)) h
theorem FS.lastJ(fs:FS C n k A env (J++Y) OL l s)(x:KJ C J s s')(hJ:∀a∈J,a∉Y)(hP:C.P∈Y)(hc:∀p∈env.cells,p.2∈Y)(wY:∀a∈jB env,a∈Y):FS C n k A env Y OL l s':=by
 have qQ:∀a∈q6 OL++Y,a∈q6 OL++(J++Y):=fun a ha=>by
  rcases jq.mp ha with h|h
  ·exact xn _ h
  ·exact jz _ (jz _ h)
 have ix:∀p∈OL,p.2∉J:=fun p hp hm=>fs.nY p hp (xn _ hm)
 have hJ':∀a∈J,a∈q6 OL++(J++Y)/\a∉q6 OL++Y:=fun a ha=>⟨jz _ (xn _ ha),fun hm=>by
  rcases jq.mp hm with h|h
  ·refine lE h ?_;rintro p hp rfl
   exact ix p hp ha
  ·exact hJ a ha h⟩
 have hl:env.locals∉J:=fun hm=>hJ _ hm (wY _ jk)
 have tt:=x.tabTo fs.pre.gr.tab
 have hWJ:∀a∈q6 OL++jB env,a∉J:=fun a ha hm=>by
  rcases jq.mp ha with h|h
  ·refine lE h ?_;rintro p hp rfl
   exact ix p hp hm
  ·exact hJ a hm (wY a h)
 refine⟨fs.pre.lastJ x qQ hJ' (jz _ hP) (fun p hp=>jz _ (hc p hp)) hl,hP,hc,⟨fs.own.ne,fun a ha hc=> ?_,fun a ha=> ?_⟩,wY,fun p hp hm=>fs.nY p hp (jz _ hm),fs.ap,fs.cw,fun y ds hy=> ?_⟩
 ·rcases tt.2 a hc with h|h
  ·exact fs.own.code a ha h
  ·obtain⟨o,e⟩:=fs.own.ex a ha
   rw[h] at e;exact zn e
 ·obtain⟨o,e⟩:=fs.own.ex a ha
  exact⟨o,x.heap (hWJ a ha) e⟩
 ·refine yz (fs.lst y ds hy) fun a vs m h1 h2 h3 h4=> ?_
  exact vL a vs m h1 (h2.kj hl (fun q hq hm=>hJ _ hm (hc q hq)) x) (x.heap (ix _ h1) h3) (q5.lastJ x qQ (fun a ha=>(hJ' a ha).1) h4)
structure SrcR(C:Cx)(A:Around)(t:Expr)(Y:List Addr)(I:Addr)(J:List Addr)(ds:List D)(h:Heap):Prop where
 go:∃(fp:List Addr) (m i:Nat) (St:Nat->Heap->Prop) (PV:Nat->Value->Heap->Nat->Prop),
  (∀i h h',St i h->(∀b∈fp,∀o,h.get? b=some o->h'.get? b=some o)->St i h')/\
  (∀i (s:Shared) (Q:q4),i<m->St i s.heap->(∀v h' tk,s.toks<=tk->(∀b o,b∉J->s.heap.get? b=some o->h'.get? b=some o)->St (i+1) h'->PV i v h' s.heap.objs.size->(∀b∈J,∃o,h'.get? b=some o)->Q v { s with heap:=h',toks:=tk })->
   wpAny C.M A (pyNext (.ref I)) (fun r s1=>∃v,r=some v/\wpAny C.M A (letOwnedTupleGo t (.ref I) v) (fun _ s2=>Q v s2) NE s1) NE s)/\
  (∀(s:Shared) (Q:Option Value->Shared->Prop),St m s.heap->(∀h' tk,s.toks<=tk->(∀b o,b∉J->s.heap.get? b=some o->h'.get? b=some o)->Q none { s with heap:=h',toks:=tk })->wpAny C.M A (pyNext (.ref I)) Q NE s)/\
  St i h/\i+ds.length=m/\(∀b∈fp,b∈J\/b∉Y)/\(∀b∈fp,∃o,h.get? b=some o)/\
  (∀j v h' B (ma:List Addr),PV (i+j) v h' B->(∀b∈ma,b<B)->(∀a o,view h Y a=some o->view h' ma a=some o)->∀d,ds[j]? =some d->RD C h' ma v d)
theorem SrcR.next{t:Expr}{I:Addr}{d:D}{ds:List D}{Q:q4}(tF:∀b∈J,b∈Y)(hYs:∀b∈Y,∃o,s.heap.get? b=some o)(x:SrcR C A t Y I J (d::ds) s.heap)
  (q:∀v h' tk,s.toks<=tk->(∀b o,b∉J->s.heap.get? b=some o->h'.get? b=some o)->(∀b∈J,∃o,h'.get? b=some o)->SrcR C A t Y I J ds h'->RD C h' Y v d->Q v { s with heap:=h',toks:=tk }):
  wpAny C.M A (pyNext (.ref I)) (fun r s1=>∃v,r=some v/\wpAny C.M A (letOwnedTupleGo t (.ref I) v) (fun _ s2=>Q v s2) NE s1) NE s:=by
 obtain⟨fp,m,i,St,PV,g1,g2,g3,g4,g5,g6,g7,g8⟩:=x.go
 simp only[List.length_cons] at g5
 refine g2 i s _ (by lia) g4 fun v h' tk ht hk xo aL hj=> ?_
 have hv:∀a o,view s.heap Y a=some o->view h' Y a=some o:=yG fun b o hb e=>hk b o (fun hm=>hb (tF b hm)) e
 refine q v h' tk ht hk hj ⟨fp,m,i+1,St,PV,g1,g2,g3,xo,by lia,g6,fun b hb=> ?_,fun j u tZ B ma hu hB dD d' yP=> ?_⟩ (g8 0 v h' _ Y aL (fun b hb=>let ⟨o,e⟩:=hYs b hb;Heap.lt_size e) hv d rfl)
 ·by_cases hm:b∈J
  ·exact hj b hm
  ·obtain⟨o,e⟩:=g7 b hb
   exact⟨o,hk b o hm e⟩
 ·exact g8 (j+1) u tZ B ma (by rw[show i+(j+1)=i+1+j by simp+arith only];exact hu) hB (fun a o e=>dD a o (hv a o e)) d' (by exact yP)
theorem SrcR.done{t:Expr}{I:Addr}{Q:Option Value->Shared->Prop}(x:SrcR C A t Y I J [] s.heap)(q:∀h' tk,s.toks<=tk->(∀b o,b∉J->s.heap.get? b=some o->h'.get? b=some o)->Q none { s with heap:=h',toks:=tk }):wpAny C.M A (pyNext (.ref I)) Q NE s:=by
 obtain⟨fp,m,i,St,PV,g1,g2,g3,g4,g5,g6,g7,g8⟩:=x.go
 have:i=m:=by exact g5
 subst this
 exact g3 s Q g4 q
theorem SrcR.more{t:Expr}{I:Addr}{ds:List D}{h h':Heap}{Zs:List Addr}(x:SrcR C A t Y I J ds h)(hZ:∀b∈Zs,h.get? b=none)(ae:∀b∈Y',b∈Zs\/b∈Y)(vJ:∀b o,(b∈J\/b∉Y)->h.get? b=some o->h'.get? b=some o):SrcR C A t Y' I J ds h':=by
 obtain⟨fp,m,i,St,PV,g1,g2,g3,g4,g5,g6,g7,g8⟩:=x.go
 have nZ:∀b o,h.get? b=some o->b∉Zs:=fun b o e hm=>by rw[hZ b hm] at e;exact zn e
 refine⟨fp,m,i,St,PV,g1,g2,g3,g1 i h h' g4 fun b hb o e=>vJ b o (g6 b hb) e,g5,fun b hb=> ?_,fun b hb=> ?_,fun j v tZ B ma aL hB hv d hd=>g8 j v tZ B ma aL hB (fun a o e=>hv a o ?_) d hd⟩
 ·rcases g6 b hb with h|h
  ·exact .inl h
  ·refine .inr fun hm=> ?_
   rcases ae b hm with hm|hm
   ·obtain⟨o,e⟩:=g7 b hb
    exact nZ b o e hm
   ·exact h hm
 ·obtain⟨o,e⟩:=g7 b hb
  exact⟨o,vJ b o (g6 b hb) e⟩
 ·obtain⟨e,nn⟩:=jM e
  refine jX (vJ a o (.inr nn) e) fun hm=> ?_
  rcases ae a hm with hm|hm
  ·exact nZ a o e hm
  ·exact nn hm
theorem SrcR.ofIt{t:Expr}{I:Addr}{ds:List D}{h:Heap}(hI:I∈Y)(x:gT C A Y I ds h):SrcR C A t Y I [I] ds h:=by
 obtain⟨fp,m,P,St,i,W,st,hl,vJ,ho,hP⟩:=x
 refine⟨fp,m,i,St,fun i v _ _=>P i v,W.frame,fun i s Q hi xo hq=> ?_,fun s Q xo hq=>yE (W.done s _ _ xo fun h' tk hk ht=>hq h' tk ht hk),st,hl,fun b hb=> ?_,vJ.2,fun j v h' B ma aL hB hv d hd=>Mine.R.mono hv (hP j v aL d hd)⟩
 ·refine yE (W.item i s _ _ hi xo fun v h' tk hv tg hk ht=>⟨v,rfl,jAt (ho _ _ tg) ?_⟩)
  refine hq v h' tk ht hk tg hv fun b hb=> ?_
  replace hb:=j4.mp hb;subst hb
  refine jH (ho _ _ tg) fun o e _=> ?_
  exact⟨o,e⟩
 ·rcases vJ.1 b hb with e|e
  ·exact .inl (by simp[e])
  ·exact .inr e
theorem jDy{t:Expr}(h:uj env.scope t=true):∀x∈xh t,env.kindOf x=some .local\/env.kindOf x=some .cell:=jCj h
theorem jDm{t:Expr}{v:Value}{d:D}{Q:Unit->Shared->Prop}(fs:FS C n k A env Y OL l s)(hT:uj env.scope t=true)(hv:RD C s.heap (q6 OL++Y) v d)(hb:wd l t d=some l')
  (q:∀s',KW C (ZO OL env) s s'->FS C n k A env Y OL l' s'->Q () s'):wpAny C.M A (assign t env v) Q NE s:=by
 refine gm (P:=fun t ns=>(∀x∈ns,env.kindOf x=some .local\/env.kindOf x=some .cell)->cn ns none (fun x=>some (jA l x (.val d))) (fun x y=>oD d fun a b=>some (jA (jA l x (.val a)) y (.val b)))=some l'->wpAny C.M A (assign t env v) Q NE s) (fun _ _ h=>nn h) (fun x p0 hk h=> ?_) (fun x p0 y q0 c0 z0 hk h=> ?_) (jDy hT) hb
 ·rw[<-j6 (show some (jA l x (.val d))=some l' from h)] at q
  exact wpAny_assign_Name (fs.assign (hk x x9) hv q)
 ·refine qU (uQ (show (oD d fun a b=>some (jA (jA l x (.val a)) y (.val b)))=some l' from h)) ?_;rintro a b rfl g
  rw[<-j6 g] at q
  have h1:=hk x x9
  have h3:=hk y kK
  refine jj hv.tup_inv ?_;rintro t vs m rfl ho rs
  refine zB (Rs.un2 rs) ?_;rintro u1 u2 rfl r1 r2
  refine wpAny_assign_Tuple fs.pre.a.handled (jy ho) rfl rfl fun h' hk=> ?_
  have kp:KP C s { s with heap:=h' }:=KP.of nL fun b o e=>hk b o (fun e'=>Nat.lt_irrefl _ (e'▸Heap.lt_size e)) e
  have bS:=fs.kp kp
  have r1:=RD.kp kp fs.pre.hP r1
  have r2:=RD.kp kp fs.pre.hP r2
  have hZ:∀b,ZO OL env b->b∈q6 OL++Y:=fun b hb=>ZO.sub fs.wY hb
  refine assignInOrder_cons (wpAny_assign_Name (bS.assign h1 r1 fun s1 gR qP=> ?_))
  refine assignInOrder_cons (wpAny_assign_Name (qP.assign h3 (RD.kw gR fs.pre.hP hZ r2) fun s2 z5 xa=> ?_))
  exact assignInOrder_nil (q s2 ((KP.kw kp).trans (gR.trans z5)) xa)
def oV(C:Cx)(J:List Addr)(OL:yV)(env:Env)(s s2:Shared):Prop:=∃s1,KW C (fun b=>b∈J\/ZO OL env b) s s1/\KJ C J s1 s2
inductive nG (C:Cx) (n:Nat) (r:Ev) (k:Bool) (A:Around) (env:Env) (Y J:List Addr) (OL:yV) (s:Shared) (t:Expr) (body:List Stmt) (f:Fl) (l1:jQ) (I:Addr) (m:Nat) (s1:Shared):Prop
 |mk:∀yy l' N,yy.length=m->forL r k env.scope t body l' yy=some (f,l1)->(∀p∈N,s.heap.get? p.2=none)->FS C n k A env (J++Y) (N++OL) l' s1->SrcR C A t (q6 (N++OL)++(J++Y)) I J yy s1.heap->(KW C (fun b=>b∈J\/ZO OL env b) s s1)->nG C n r k A env Y J OL s t body f l1 I m s1
theorem jB6(S:wt C n r){t:Expr}{body orelse:List Stmt}{its:List D}{f:Fl}{l1:jQ}{I:Addr}{R:Result->Shared->Prop}(hT:uj env.scope t=true)(h:forL r k env.scope t body l its=some (f,l1))
  (fs:FS C n k A env (J++Y) OL l s) (src:SrcR C A t (q6 OL++(J++Y)) I J its s.heap) (hJ:∀a∈J,a∉Y) (oJ:Own C J s.heap) (hP:C.P∈Y) (hc:∀p∈env.cells,p.2∈Y) (wY:∀a∈jB env,a∈Y)
  (qn:f= .next->∀s2 N,(∀p∈N,s.heap.get? p.2=none)->oV C J OL env s s2->FS C n k A env Y (N++OL) l1 s2->wpAny C.M A (execs orelse env) (fun f s3=>R (.ok f) s3) (notedBy C.M A env fun e s'=>R (.error e) s') s2)
  (qb:f= .brk->∀s2 N,(∀p∈N,s.heap.get? p.2=none)->oV C J OL env s s2->FS C n k A env Y (N++OL) l1 s2->R (.ok .next) s2)
  (qr:∀d,f= .ret d->∀v s2,oV C J OL env s s2->RD C s2.heap Y v d->R (.ok (.ret v)) s2):
  codeAny C.M A (.forLoop t (.ref I) body orelse env) R s:=by
 refine codeAny_forLoop_any (nG C n r k A env Y J OL s t body f l1 I) ?_ its.length ⟨its,l,[],rfl,h,fun p hp=>(by cases hp),fs,src,KW.refl s⟩
 intro m s1 y0
 obtain⟨yy,l',N,hm,hf,hN,qP,kQ,gR⟩:=y0
 have t0:=fs.pre.gr.tab
 have cq:Own C J s1.heap:=oJ.kw t0 gR
 have tF:∀b∈J,b∈q6 (N++OL)++(J++Y):=fun b hb=>jz _ (xn _ hb)
 have iW:env.locals∉J:=fun hm=>hJ _ hm (wY _ jk)
 have hcJ:∀q∈env.cells,¬q.2∈J:=fun q hq hm=>hJ _ hm (hc q hq)
 have hoJ:∀(OL':yV) (l2:jQ) (s2:Shared),FS C n k A env (J++Y) OL' l2 s2->∀b∈J,¬ZO OL' env b:=fun OL' l2 s2 xa b hb hz=>by
  rcases jq.mp hz with h|h
  ·refine lE h ?_;rintro p hp rfl
   exact xa.nY p hp (xn _ hb)
  ·exact hJ b hb (wY b h)
 have nE:∀{α:Type} {t:Sem α} {Q:α->Shared->Prop} {s:Shared},wpAny C.M A t Q NE s->wpAny C.M A t Q (notedBy C.M A env fun e s'=>R (.error e) s') s:=fun h=>ne h
 induction yy using cL with
 |nil=>
  obtain⟨hA,hB⟩:=Prod.mk.inj (j6 hf);clear hf;subst hA;subst hB
  refine nE (kQ.done fun h' tk ht hk=> ?_)
  have kj:KJ C J s1 { s1 with heap:=h',toks:=tk }:=KJ.of ht cq.ne cq.code hk
  exact qn rfl _ N hN ⟨s1,gR,kj⟩ (qP.lastJ kj hJ hP hc wY)
 |cons d ds=>
  refine bE (show (wd l' t d).bind _=some (f,l1) from hf) fun l2 hb hf=> ?_
  refine bE hf ?_;rintro ⟨f3,l3⟩ hs hf
  refine nE (wpAny_mono (kQ.next tF qP.pre.hYs (Q:=fun v s2=>wpAny C.M A (assign t env v) (fun _ s₂=>wpAny C.M A (execs body env) (fun ff s₃=>match ff with
      | .next| .cont=>∃m',m'<m/\nG C n r k A env Y J OL s t body f l1 I m' s₃
      | .brk=>R (.ok .next) s₃
      | .ret v=>R (.ok (.ret v)) s₃) (notedBy C.M A env fun e s'=>R (.error e) s') s₂) (notedBy C.M A env fun e s'=>R (.error e) s') s2) ?_) ?_ fun _ _ x=>x)
  ·intro v h' tk ht hk aR td hv
   have z5:KW C (·∈J) s1 { s1 with heap:=h',toks:=tk }:=KW.many ht cq.ne cq.code hk aR
   have xa:FS C n k A env (J++Y) (N++OL) l' { s1 with heap:=h',toks:=tk }:=by
    have hJl:¬env.locals∈J:=iW
    refine⟨qP.pre.kw z5 tF hJl hcJ,qP.hP,qP.cY,qP.own.kw qP.pre.gr.tab z5,qP.wY,qP.nY,qP.ap,qP.cw,fun y dy hy=> ?_⟩
    refine yz (qP.lst y dy hy) fun a vs m' h1 h2 h3 h4=> ?_
    have haJ:¬a∈J:=fun hm=>qP.nY _ h1 (xn _ hm)
    have fF:a≠C.P:=qP.own.ne a (xn _ (List.mem_map_of_mem (f:=(·.2)) h1))
    exact vL a vs m' h1 (h2.kw qP.pre.gr.tab z5 hJl hcJ) (z5.heap fF haJ h3) (q5.kw z5 qP.pre.hP tF h4)
   refine nE (jDm xa hT hv hb fun s3 vO yB=> ?_)
   have oK:KW C (fun b=>b∈J\/ZO OL env b) s s3:=gR.transNew ((z5.mono fun b hb=>Or.inl hb).trans (vO.mono fun b hb=>Or.inr hb) (Z:=fun b=>b∈J\/ZO (N++OL) env b)) fun b hb=>by
    rcases hb with hb|hb
    ·exact .inl (.inl hb)
    ·rcases vP hN b hb with h|h
     ·exact .inl (.inr h)
     ·exact .inr h
   have tc:SrcR C A t (q6 (N++OL)++(J++Y)) I J ds s3.heap:=td.more (Zs:=[]) (fun b hb=>by cases hb) (fun b hb=> .inr hb) fun b o hb e=>by
    refine vO.heap (fun e'=> ?_) (fun hz=> ?_) e
    ·rcases hb with hb|hb
     ·exact cq.ne b hb e'
     ·exact hb (e'▸qP.pre.hP)
    ·rcases hb with hb|hb
     ·exact hoJ _ _ _ xa b hb hz
     ·exact hb (ZO.sub xa.wY hz)
   refine xY S.S body (N++OL) l2 l3 f3 s3 _ _ yB hs ?_
   have next:forL r k env.scope t body l3 ds=some (f,l1)->qa C n k A env (J++Y) (N++OL) l3 s3 (fun s4=>∃m',m'<m/\nG C n r k A env Y J OL s t body f l1 I m' s4):=by
    intro hf s4 N2 tE yx yw
    have hN2s:∀p∈N2,s.heap.get? p.2=none:=fun p hp=>xX oK t0 (tE p hp)
    refine⟨ds.length,by rw[<-hm];simp,ds,l3,N2++N,rfl,hf,fun p hp=> ?_,by rw[List.append_assoc];exact yw,?_,?_⟩
    ·rcases jq.mp hp with hp|hp
     ·exact hN2s p hp
     ·exact hN p hp
    ·refine tc.more (Zs:=q6 N2) (fun b hb=> ?_) (fun b hb=> ?_) fun b o hb e=> ?_
     ·refine lE hb ?_;rintro p hp rfl
      exact tE p hp
     ·simp only[q6,List.map_append,List.mem_append] at hb ⊢
      rcases hb with ((hb|hb)|hb)|hb
      ·exact .inl hb
      ·exact .inr (.inl (.inl hb))
      ·exact .inr (.inl (.inr hb))
      ·exact .inr (.inr hb)
     ·refine yx.heap (fun e'=> ?_) (fun hz=> ?_) e
      ·rcases hb with hb|hb
       ·exact cq.ne b hb e'
       ·exact hb (e'▸qP.pre.hP)
      ·rcases hb with hb|hb
       ·exact hoJ _ _ _ yB b hb hz
       ·exact hb (ZO.sub yB.wY hz)
    ·exact oK.transNew (yx.mono fun b hb=>hb) fun b hb=>by
      rcases vP hN b hb with h|h
      ·exact .inl (.inr h)
      ·exact .inr h
   have kw4f:∀s4,KW C (ZO (N++OL) env) s3 s4->KW C (fun b=>b∈J\/ZO OL env b) s s4:=fun s4 yx=>oK.transNew yx fun b hb=>by
    rcases vP hN b hb with h|h
    ·exact .inl (.inr h)
    ·exact .inr h
   induction f3 using cF with
   |next=>exact next hf
   |brk=>
    obtain⟨hA,hB⟩:=Prod.mk.inj (j6 hf);clear hf;subst hA;subst hB
    intro s4 N2 tE yx yw
    refine qb rfl s4 (N2++N) (fun p hp=> ?_) ⟨s4,kw4f s4 yx,KJ.refl s4⟩ (by rw[List.append_assoc];exact yw.lastJ (KJ.refl s4) hJ hP hc wY)
    rcases jq.mp hp with hp|hp
    ·exact xX oK t0 (tE p hp)
    ·exact hN p hp
   |ret d'=>
    obtain⟨hA,hB⟩:=Prod.mk.inj (j6 hf);clear hf;subst hA;subst hB
    intro v s4 yx rd
    exact qr d' rfl v s4 ⟨s4,kw4f s4 yx,KJ.refl s4⟩ (Mine.R.mono (jh fun a ha=>jz _ ha) rd)
   |exc c d'=>exact zn hf
  ·intro rr s2 y0
   refine jH y0 ?_;clear y0;rintro v rfl hh
   exact ne hh
theorem IsTupleIter.at{h h':Heap}{a t i}(x:h.IsTupleIter a t i)(e:∀o,h.get? a=some o->h'.get? a=some o):h'.IsTupleIter a t i:=let ⟨o,ho,r⟩:=x;⟨o,e _ ho,r⟩
variable{prog:Program}{w:World}{E:q4}
theorem jIn{M:Model}{c:Value}{Q:Bool->Shared->Prop}(h:∀b,Q b s):wpAny M A (Builtin.SmallTypes.calledThroughType c) Q E s:=
 wpAny_bind (wpAny_stack_any fun _=>wpAny_pure (h _))
set_option tactic.hygienic true in
theorem jE0(l:Addr)(items:Array Value)(n:Nat):
  Meets (Builtin.«enumerate.__new__» ⟨[.type "enumerate",.ref l],[]⟩) (fun _ R s=>s.heap.get? l=some { cls:= .type "tuple",dict:=none,data:= .seq items n,slots:= #[] }/\
   R (.ok (.ret (.ref (s.heap.push { cls:= .type "tuple_iterator",data:= .fields #[.ref l,.int 0 0] }).objs.size)))
     { s with heap:=(s.heap.push { cls:= .type "tuple_iterator",data:= .fields #[.ref l,.int 0 0] }).push { cls:= .type "enumerate",data:= .fields #[.none,.bool false,.ref s.heap.objs.size,rawInt 0,.none,.none] } }):=
 .of_wp fun prog w A R s h=>by
  obtain⟨hp,g,d,tk,os⟩:=s;obtain⟨hl,h⟩:=h
  have qQ:=sub_enumerate
  have hL:Heap.IsTuple (Shared.heap ⟨hp,g,d,tk,os⟩) l items:=⟨_,hl,rfl,n,rfl⟩
  wp_walk using wpAny_loadPart' hl,jIn
  intro b
  cases b
  ·wp_walk using wpAny_loadPart' hl,wpAny_pyIter_tuple hL
   exact⟨_,rfl,h⟩
  ·wp_walk using wpAny_loadPart' hl,wpAny_pyIter_tuple hL
   exact⟨_,rfl,h⟩
theorem jF7{l:Addr}{vs:List Value}{Q:q4}(hl:s.heap.get? l=some (xt vs n))
  (h:∀h',IsEnum h' (s.heap.objs.size+1) s.heap.objs.size 0 .none->h'.IsTupleIter s.heap.objs.size l 0->h'.objs.size=s.heap.objs.size+2->
   (∀b o,s.heap.get? b=some o->h'.get? b=some o)->Q (.ref (s.heap.objs.size+1)) { s with heap:=h' }):
  wpAny (model prog w) A (call (.type "enumerate") [.ref l]) Q E s:=by
 refine callType_new F.called_enumerate kD (F.typeCall_enumerate_1 _) (F.newCall_enumerate_1 _) (fun obj=>F.args_object_init_2 obj _) F.entry_enumerate_new
  (jE0 l vs.toArray n) ⟨hl,?_⟩
 have hz:(s.heap.push { cls:= .type "tuple_iterator",data:= .fields #[.ref l,.int 0 0] }).objs.size=s.heap.objs.size+1:=Heap.size_push ..
 refine(?_:_/\_)
 rw[hz]
 have he:IsEnum ((s.heap.push { cls:= .type "tuple_iterator",data:= .fields #[.ref l,.int 0 0] }).push
   { cls:= .type "enumerate",data:= .fields #[.none,.bool false,.ref s.heap.objs.size,rawInt 0,.none,.none] }) (s.heap.objs.size+1) s.heap.objs.size 0 .none:=by
  have:=Heap.get?_push_size (s.heap.push { cls:= .type "tuple_iterator",data:= .fields #[.ref l,.int 0 0] })
   (o:={ cls:= .type "enumerate",data:= .fields #[.none,.bool false,.ref s.heap.objs.size,rawInt 0,.none,.none] }) rfl
  rw[hz] at this;exact this
 refine⟨⟨_,he,rfl⟩,h _ he ⟨_,wW _ (Heap.get?_push_size _ rfl),rfl,rfl⟩ (by rw[Heap.size_push,hz]) fun b o x=>wW _ (wW _ x)⟩
theorem jA1{it l:Addr}{i:Nat}{items}{x:Value}{Q:q4}(hit:s.heap.IsTupleIter it l i)
  (hl:s.heap.IsTuple l items) (hx:items[i]? =some x)
  (hQ:∀h',h'.IsTupleIter it l (i+1)->Heap.SameBut it s.heap h'->Q x { s with heap:=h' }):
  wpAny (model prog w) A (Builtin.SmallTypes.nextOf (.ref it)) Q E s:=by
 refine xQ (id hit) fun o ho hc hd=> ?_
 obtain⟨ol,nU,_,nl,aX⟩:=hl
 unfold Builtin.SmallTypes.nextOf
 refine wpAny_bind (wpAny_callSpecial?_slot (name:=Str.ofString "__next__") hit.typeIs F.slot_tuple_iterator_next
  (wpAny_call_entry F.slot_tuple_iterator_next hit.typeIs F.entry_tuple_iterator_next ?_ (F.args_tuple_iterator_next_1 _)))
 refine(?_:wpAny _ _ (field (.ref it) 0 >>=_) _ _ s)
 refine wpAny_bind (wpAny_field ho hd (x:= .ref l) rfl ?_)
 refine(?_:wpAny _ _ (if (Value.ref l==Value.none)=true then _ else _) _ _ s)
 rw[if_neg (show¬((Value.ref l==Value.none)=true) from Bool.false_ne_true)]
 refine(?_:wpAny _ _ (field (.ref it) 1 >>=_) _ _ s)
 refine wpAny_bind (wpAny_field ho hd (x:= .int i 0) rfl ?_)
 refine(?_:wpAny _ _ (seqItems? (.ref l) >>=_) _ _ s)
 refine wpAny_bind (wpAny_seqItems nU aX ?_)
 simp only[Int.toNat_natCast,hx]
 refine wpAny_bind (wpAny_setField ho hd (by simp) (wpAny_pure ⟨x,rfl,wpAny_pure (hQ _ ?_ (Heap.SameBut.update ..))⟩))
 exact vM _ (Heap.get?_update_self _ ho (Obj.isFreed_of_fields (Obj.data_mapFields hd _))) ((Obj.cls_mapFields ..).trans hc) (by
  rw[Obj.data_mapFields hd];simp[rawInt])
theorem jBv{it l:Addr}{i:Nat}{items}{Q:q4}(hh:A.handled=none)
  (hit:s.heap.IsTupleIter it l i) (hl:s.heap.IsTuple l items) (hx:items[i]? =none)
  (hE:∀h' e,Heap.ExtBut it s.heap h'->(∃o,h'.get? e=some o/\o.cls= .type "StopIteration")->E (.ref e) { s with heap:=h' }):
  wpAny (model prog w) A (Builtin.SmallTypes.nextOf (.ref it)) Q E s:=by
 refine xQ (id hit) fun o ho hc hd=> ?_
 obtain⟨ol,nU,_,nl,aX⟩:=hl
 unfold Builtin.SmallTypes.nextOf
 refine wpAny_bind (wpAny_callSpecial?_slot (name:=Str.ofString "__next__") hit.typeIs F.slot_tuple_iterator_next
  (wpAny_call_entry F.slot_tuple_iterator_next hit.typeIs F.entry_tuple_iterator_next ?_ (F.args_tuple_iterator_next_1 _)))
 refine(?_:wpAny _ _ (field (.ref it) 0 >>=_) _ _ s)
 refine wpAny_bind (wpAny_field ho hd (x:= .ref l) rfl ?_)
 refine(?_:wpAny _ _ (if (Value.ref l==Value.none)=true then _ else _) _ _ s)
 rw[if_neg (show¬((Value.ref l==Value.none)=true) from Bool.false_ne_true)]
 refine(?_:wpAny _ _ (field (.ref it) 1 >>=_) _ _ s)
 refine wpAny_bind (wpAny_field ho hd (x:= .int i 0) rfl ?_)
 refine(?_:wpAny _ _ (seqItems? (.ref l) >>=_) _ _ s)
 refine wpAny_bind (wpAny_seqItems nU aX ?_)
 simp only[Int.toNat_natCast,hx]
 refine wpAny_bind (wpAny_rule (wpAny_bind (wpAny_setField ho hd (by simp) ?_)))
 refine(?_:wpAny _ _ (newExc (.type "StopIteration") [] >>=_) _ _ _)
 refine wpAny_bind ?_
 simp only[newExc,newTuple]
 refine wpAny_bind (wpAny_newObj_type ?_ (by size_fits))
 refine wpAny_bind (m:=firstArgMember _ _) (wpAny_of_eq (a:=Value.none) (by first|rfl|(simp only[firstArgMember];rfl)) ?_)
 refine wpAny_newObj_type ?_ (by size_fits)
 simp only[raiseNew]
 refine wpAny_bind (wpAny_handled ?_)
 first|rw[show A.in1.handled=none from hh]|rw[hh]
 refine wpAny_bind (wpAny_pure (wpAny_throw ?_))
 exact hE _ _ (((Heap.SameBut.update ..).extBut.push _).push _) ⟨_,Heap.get?_push_size _ rfl,rfl⟩
theorem jF4{e it l:Addr}{i:Nat}{items:Array Value}{x old:Value}{Q:q4}
  (he:IsEnum s.heap e it i old) (hit:s.heap.IsTupleIter it l i) (hl:s.heap.IsTuple l items) (hx:items[i]? =some x) (jv:e≠it)
  (hQ:∀h',IsEnumOut h' e it ((i:Int)+1) x s.heap.objs.size->h'.IsTupleIter it l (i+1)->
   h'.get? s.heap.objs.size=some { cls:= .type "tuple",data:= .seq #[.int i s.toks,x] }->h'.objs.size=s.heap.objs.size+1->
   (∀b o,b≠e->b≠it->s.heap.get? b=some o->h'.get? b=some o)->Q (.ref s.heap.objs.size) { s with heap:=h',toks:=s.toks+1 }):
  wpAny (model prog w) A (Builtin.«enumerate.__next__» ⟨[.ref e],[]⟩) (fun fin s'=>∃v,fin= .done (.ret v)/\Q v s') E s:=by
 obtain⟨hp,g,d,tk,os⟩:=s
 refine(?_:wpAny _ _ (field (.ref e) 2 >>=_) _ _ _)
 refine wpAny_bind (wpAny_field he rfl (x:= .ref it) rfl ?_)
 refine wpAny_bind (jA1 hit hl hx fun h₁ hit₁ hs₁=> ?_)
 replace hs₁:Heap.SameBut it hp h₁:=hs₁
 have he₁:IsEnum h₁ e it i old:=(hs₁.2 e jv).trans he
 refine(?_:wpAny _ _ (field (.ref e) 3 >>=_) _ _ ⟨h₁,g,d,tk,os⟩)
 refine wpAny_bind (wpAny_field he₁ rfl (x:=rawInt i) rfl ?_)
 refine(?_:wpAny _ _ (field (.ref e) 4 >>=_) _ _ ⟨h₁,g,d,tk,os⟩)
 refine wpAny_bind (wpAny_field he₁ rfl (x:= .none) rfl ?_)
 refine(?_:wpAny _ _ (mkInt i >>=_) _ _ ⟨h₁,g,d,tk,os⟩)
 refine wpAny_bind (wpAny_mkInt ?_)
 refine(?_:wpAny _ _ (setField (.ref e) 3 (rawInt ((i:Int)+1)) >>=_) _ _ ⟨h₁,g,d,tk+1,os⟩)
 refine wpAny_bind (wpAny_setField_rec he₁ (by simp) fun h₂ he₂ hs₂=> ?_)
 replace hs₂:Heap.SameBut e h₁ h₂:=hs₂
 replace he₂:IsEnum h₂ e it ((i:Int)+1) old:=he₂
 refine(?_:wpAny _ _ (setField (.ref e) 4 .none >>=_) _ _ ⟨h₂,g,d,tk+1,os⟩)
 refine wpAny_bind (wpAny_setField_rec he₂ (by simp) fun h₃ he₃ hs₃=> ?_)
 replace hs₃:Heap.SameBut e h₂ h₃:=hs₃
 replace he₃:IsEnum h₃ e it ((i:Int)+1) old:=he₃
 refine(?_:wpAny _ _ (newTuple [.int i tk,x] >>=_) _ _ ⟨h₃,g,d,tk+1,os⟩)
 refine wpAny_bind (wpAny_newTuple ?_)
 have he₄:IsEnum (h₃.push { cls:= .type "tuple",data:= .seq #[.int i tk,x] }) e it ((i:Int)+1) old:=wW _ he₃
 generalize hh₄:h₃.push { cls:= .type "tuple",data:= .seq #[.int i tk,x] }=h₄ at he₄
 have dE:h₃.objs.size=hp.objs.size:=by rw[hs₃.1,hs₂.1,hs₁.1]
 have i9:e<hp.objs.size:=Heap.lt_size he
 have ht₄:h₄.get? hp.objs.size=some { cls:= .type "tuple",data:= .seq #[.int i tk,x] }:=by rw[<-hh₄,<-dE];exact Heap.get?_push_size _ rfl
 have hz₄:h₄.objs.size=hp.objs.size+1:=by rw[<-hh₄,Heap.size_push,dE]
 have hk₄:∀b o,b≠e->b≠it->hp.get? b=some o->h₄.get? b=some o:=fun b o rY ij hb=>by
  rw[<-hh₄];exact wW _ (hs₃.extBut b o rY (hs₂.extBut b o rY (hs₁.extBut b o ij hb)))
 have hit₄:h₄.IsTupleIter it l (i+1):=by
  rw[<-hh₄];refine jH ((hit₁.extBut hs₂.extBut (Ne.symm jv)).extBut hs₃.extBut (Ne.symm jv)) fun o ho r=> ?_;exact⟨o,wW _ ho,r⟩
 refine(?_:wpAny _ _ (Builtin.SmallTypes.ownedTupleIsFree (.ref e) >>=_) _ _ ⟨h₄,g,d,tk+1,os⟩)
 rw[dE]
 clear hh₄ he₃ hs₃ he₂ hs₂ he₁ hs₁ hit₁ dE h₃ h₂ h₁
 refine wpAny_bind ?_
 ·unfold Builtin.SmallTypes.ownedTupleIsFree
  refine wpAny_bind (wpAny_field he₄ rfl (x:= .none) rfl (wpAny_pure ?_))
  simp only[if_true]
  refine wpAny_bind (wpAny_rule ?_)
  refine wpAny_bind (wpAny_field he₄ rfl (x:=old) rfl ?_)
  refine wpAny_bind (wpAny_setField_rec he₄ (by simp) fun h₅ he₅ hs₅=> ?_)
  replace hs₅:Heap.SameBut e h₄ h₅:=hs₅
  replace he₅:IsEnum h₅ e it ((i:Int)+1) x:=he₅
  refine(?_:wpAny _ _ (Builtin.SmallTypes.ownedTupleHandOut (.ref e) (.ref hp.objs.size) >>=_) _ _ ⟨h₅,g,d,tk+1,os⟩)
  refine wpAny_bind ?_
  ·unfold Builtin.SmallTypes.ownedTupleHandOut
   refine wpAny_bind (wpAny_setField_rec he₅ (by simp) fun h₆ he₆ hs₆=> ?_)
   replace hs₆:Heap.SameBut e h₅ h₆:=hs₆
   replace he₆:IsEnumOut h₆ e it ((i:Int)+1) x hp.objs.size:=he₆
   refine wpAny_setField_rec he₆ (by simp) fun h₇ he₇ hs₇=> ?_
   replace hs₇:Heap.SameBut e h₆ h₇:=hs₇
   replace he₇:IsEnumOut h₇ e it ((i:Int)+1) x hp.objs.size:=he₇
   refine wpAny_bind (wpAny_letGo (wpAny_pure ⟨_,rfl,hQ h₇ he₇ ?_ ?_ ?_ ?_⟩))
   ·exact((hit₄.extBut hs₅.extBut (Ne.symm jv)).extBut hs₆.extBut (Ne.symm jv)).extBut hs₇.extBut (Ne.symm jv)
   ·exact hs₇.extBut _ _ (Nat.ne_of_gt i9) (hs₆.extBut _ _ (Nat.ne_of_gt i9) (hs₅.extBut _ _ (Nat.ne_of_gt i9) ht₄))
   ·rw[hs₇.1,hs₆.1,hs₅.1,hz₄]
   ·exact fun b o rY ij hb=>hs₇.extBut b o rY (hs₆.extBut b o rY (hs₅.extBut b o rY (hk₄ b o rY ij hb)))
theorem jAo{e it l:Addr}{i:Nat}{items:Array Value}{x old:Value}{Q:Option Value->Shared->Prop}
  (he:IsEnum s.heap e it i old) (hit:s.heap.IsTupleIter it l i) (hl:s.heap.IsTuple l items) (hx:items[i]? =some x) (jv:e≠it)
  (hQ:∀h',IsEnumOut h' e it ((i:Int)+1) x s.heap.objs.size->h'.IsTupleIter it l (i+1)->
   h'.get? s.heap.objs.size=some { cls:= .type "tuple",data:= .seq #[.int i s.toks,x] }->h'.objs.size=s.heap.objs.size+1->
   (∀b o,b≠e->b≠it->s.heap.get? b=some o->h'.get? b=some o)->Q (some (.ref s.heap.objs.size)) { s with heap:=h',toks:=s.toks+1 }):
  wpAny (model prog w) A (pyNext (.ref e)) Q E s:=by
 have hT:s.TypeIs (.ref e) "enumerate":=⟨_,he,rfl⟩
 unfold pyNext
 exact wpAny_bind (wpAny_attempt (wpAny_callSpecial?_slot (name:=Str.ofString "__next__") hT F.slot_enumerate_next
  (wpAny_call_entry F.slot_enumerate_next hT F.entry_enumerate_next
   (jF4 he hit hl hx jv fun h' a b c d k=>wpAny_pure (hQ h' a b c d k)) (F.args_enumerate_next_1 _))))
theorem jAq{e it l:Addr}{i:Nat}{items:Array Value}{old:Value}{Q:Option Value->Shared->Prop}(hh:A.handled=none)
  (he:IsEnum s.heap e it i old) (hit:s.heap.IsTupleIter it l i) (hl:s.heap.IsTuple l items) (hx:items[i]? =none)
  (hQ:∀h',Heap.ExtBut it s.heap h'->Q none { s with heap:=h' }):wpAny (model prog w) A (pyNext (.ref e)) Q E s:=by
 have hT:s.TypeIs (.ref e) "enumerate":=⟨_,he,rfl⟩
 unfold pyNext
 refine wpAny_bind (wpAny_attempt (wpAny_callSpecial?_slot (name:=Str.ofString "__next__") hT F.slot_enumerate_next
  (wpAny_call_entry F.slot_enumerate_next hT F.entry_enumerate_next ?_ (F.args_enumerate_next_1 _))))
 refine(?_:wpAny _ _ (field (.ref e) 2 >>=_) _ _ _)
 refine wpAny_bind (wpAny_field he rfl (x:= .ref it) rfl ?_)
 refine wpAny_bind (jBv hh hit hl hx fun h' x nX hx'=> ?_)
 refine jH hx' fun o ho hc=> ?_;clear hx'
 refine wpAny_bind (wpAny_isInstance (T:="StopIteration") (b:=true) ⟨o,ho,hc⟩ isSubtype_stop ?_)
 exact wpAny_pure (hQ _ nX)
theorem SrcR.enumT{ts:List Expr}{kd:Nat}{pos:Pos}{e it l:Addr}{vs:List Value}{ds:List D}{h:Heap}(hh:A.handled=none)(he:IsEnum h e it 0 .none)(hit:h.IsTupleIter it l 0)(hl:h.get? l=some (xt vs n))(ia:e≠it)(hle:l≠e)(hli:l≠it)(nV:l∉Y)(hr:q5 C h Y vs ds):
  SrcR C A (.Tuple ts kd pos) Y e [e,it] (ds.mapIdx fun k d=>D.tup [.int k,d]) h:=by
 have hlen:=hr.length
 refine xQ (id hit) fun oi uk tC u9=> ?_
 refine⟨[e,it,l],vs.length,0,fun i h=>(∃old,IsEnum h e it i old)/\h.IsTupleIter it l i/\h.get? l=some (xt vs n),
  fun i v h' B=>∃T t x,v= .ref T/\h'.get? T=some (xt [.int i t,x] 0)/\vs[i]? =some x/\B<=T,fun i h h' ⟨⟨old,h1⟩,h2,h3⟩ hk=>⟨⟨old,hk e x9 _ h1⟩,IsTupleIter.at h2 fun o x=>hk it kK o x,hk l mF _ h3⟩,?_,?_,
  ⟨⟨_,he⟩,hit,hl⟩,by simp[hlen],fun b hb=> ?_,fun b hb=> ?_,?_⟩
 ·rintro i s Q hi ⟨⟨old,h1⟩,h2,h3⟩ hq
  have hx:vs.toArray[i]? =some (vs[i]'hi):=by simp[hi]
  have hL:s.heap.IsTuple l vs.toArray:=⟨_,h3,rfl,n,rfl⟩
  have helt:=Heap.lt_size h1
  have hilt:it<s.heap.objs.size:=by (refine jH h2 fun o ho _=> ?_;clear h2);exact Heap.lt_size ho
  refine jAo h1 h2 hL hx ia fun h' ho ti hT dE hk=>⟨_,rfl,wpAny_letOwnedTupleGo_enum ho fun tZ he'' fM=> ?_⟩
  replace fM:Heap.SameBut e h' tZ:=fM
  have fz:∀b o,b≠e->h'.get? b=some o->tZ.get? b=some o:=fun b o hb x=>by rw[fM.2 b hb];exact x
  refine hq (.ref s.heap.objs.size) tZ (s.toks+1) (Nat.le_succ _) (fun b o hb x=>fz b o (fun e'=>hb (by simp[e'])) (hk b o (fun e'=>hb (by simp[e'])) (fun e'=>hb (by simp[e'])) x))
   ⟨⟨_,by exact he''⟩,IsTupleIter.at ti fun o x=>fz it o ia.symm x,fz l _ hle (hk l _ hle hli h3)⟩ ⟨s.heap.objs.size,s.toks,vs[i]'hi,rfl,fz _ _ (Nat.ne_of_gt helt) hT,by simp,Nat.le_refl _⟩ fun b hb=> ?_
  simp at hb
  rcases hb with rfl|rfl
  ·exact⟨_,he''⟩
  ·refine jH ti fun o ho' _=> ?_;clear ti
   exact⟨o,fz _ _ ia.symm ho'⟩
 ·rintro s Q ⟨⟨old,h1⟩,h2,h3⟩ hq
  have hL:s.heap.IsTuple l vs.toArray:=⟨_,h3,rfl,n,rfl⟩
  exact jAq hh h1 h2 hL (by simp) fun h' hx=>hq h' s.toks nL fun b o hb y=>hx b o (fun e'=>hb (by simp[e'])) y
 ·simp at hb
  rcases hb with rfl|rfl|rfl
  ·exact .inl x9
  ·exact .inl kK
  ·exact .inr nV
 ·simp at hb
  rcases hb with rfl|rfl|rfl
  ·exact⟨_,he⟩
  ·exact⟨_,uk⟩
  ·exact⟨_,hl⟩
 ·rintro j v h' B ma ⟨T,t,x,rfl,hT,hx,hBT⟩ hB hv d hd
  rw[List.getElem?_mapIdx] at hd
  refine mE hd ?_;rintro d' yP rfl
  refine jH (hr.get yP) fun v' dD rv=> ?_
  rw[Nat.zero_add] at hx
  rw[hx] at dD;replace dD:=j6 dD;subst dD
  rw[Nat.zero_add] at hT
  refine .tup (jX hT fun hm=> ?_) (.cons (.int _ t) (.cons (Mine.R.mono hv rv) .nil))
  exact absurd hBT (Nat.not_le.mpr (hB T hm))
theorem Pre.moreL{l:Loc}(p:Pre C n k A env Y l s)(x:KP C s s')(hn:∀a∈J,s.heap.get? a=none)(hI:∀a∈J,∃o,s'.heap.get? a=some o)(h1:∀a∈Y',a∈J\/a∈Y)(h2:∀a∈Y,a∈Y'):Pre C n k A env Y' l s':=by
 have p1:Pre C n k A env Y l s':=p.kp x
 refine⟨p.bs,p.a,p.eo,p1.gr,h2 _ p.hP,fun a ha=> ?_,fun a ha=> ?_,p1.fm,fun q hq=>h2 _ (p.hc q hq),fun y d e=> ?_⟩
 ·rcases h1 a ha with ha|ha
  ·exact none_of fun⟨o,ho⟩=>by have:=hn a ha;rw[p.gr.keep _ o ho] at this;cases this
  ·exact p.hY a ha
 ·rcases h1 a ha with ha|ha
  ·exact hI a ha
  ·exact p1.hYs a ha
 ·refine jH (p.loc y d e) fun v a rv=> ?_
  refine⟨v,a.kp p.gr.tab x,Mine.R.mono (fun a o e=> ?_) rv⟩
  obtain⟨e,nn⟩:=jM e
  refine jX (x.heap (fun h=>nn (h▸p.hP)) e) fun hm=> ?_
  rcases h1 a hm with hm|hm
  ·rw[hn a hm] at e;exact zn e
  ·exact nn hm
theorem q5.moreL{vs:List Value}{ds:List D}(x:KP C s s')(hP:C.P∈Y)(hn:∀a∈J,s.heap.get? a=none)(h1:∀a∈Y',a∈J\/a∈Y)(h:q5 C s.heap Y vs ds):q5 C s'.heap Y' vs ds:=
 Rs.mono (fun a o e=>by
  obtain⟨e,nn⟩:=jM e
  refine jX (x.heap (fun h=>nn (h▸hP)) e) fun hm=> ?_
  rcases h1 a hm with hm|hm
  ·rw[hn a hm] at e;exact zn e
  ·exact nn hm) h
theorem FS.moreJ(fs:FS C n k A env Y OL l s)(x:KP C s s')(hn:∀a∈J,s.heap.get? a=none)(hI:∀a∈J,∃o,s'.heap.get? a=some o):FS C n k A env (J++Y) OL l s':=by
 have h1:∀a∈q6 OL++(J++Y),a∈J\/a∈q6 OL++Y:=fun a ha=>by
  simp only[List.mem_append] at ha ⊢
  rcases ha with h|h|h
  ·exact .inr (.inl h)
  ·exact .inl h
  ·exact .inr (.inr h)
 have h2:∀a∈q6 OL++Y,a∈q6 OL++(J++Y):=fun a ha=>by
  simp only[List.mem_append] at ha ⊢
  rcases ha with h|h
  ·exact .inl h
  ·exact .inr (.inr h)
 refine⟨fs.pre.moreL x hn hI h1 h2,jz _ fs.hP,fun p hp=>jz _ (fs.cY p hp),fs.own.kw fs.pre.gr.tab (KP.kw x (Z:=fun _=>False)),fun a ha=>jz _ (fs.wY a ha),fun p hp hm=> ?_,fs.ap,fs.cw,fun y ds hy=> ?_⟩
 ·rcases jq.mp hm with h|h
  ·obtain⟨o,e⟩:=fs.own.ex p.2 (xn _ (List.mem_map_of_mem (f:=(·.2)) hp))
   rw[hn _ h] at e;exact zn e
  ·exact fs.nY p hp h
 ·refine yz (fs.lst y ds hy) fun a vs m g1 g2 g3 g4=> ?_
  have dH:a≠C.P:=fs.own.ne a (xn _ (List.mem_map_of_mem (f:=(·.2)) g1))
  exact vL a vs m g1 (g2.kp fs.pre.gr.tab x) (x.heap dH g3) (q5.moreL x fs.pre.hP hn h1 g4)
theorem jEq(e:Expr)(x:Str)(p:Pos)(line:Nat):∃b,swapsWith e (some (.Name x p)) line env=pure b/\(b=true->k9 e=true/\env.kindOf x=some .local):=by
 have main:∀sc pe,(k9 e=true)->∃b,(do return env.blockKind== .function&&env.kindOf x==some .local&&p.line==pe&& !((sc:Scope).names.any fun(n,k)=>n==x&&(k== .local||k== .cell)):Sem Bool)=pure b/\(b=true->k9 e=true/\env.kindOf x=some .local):=fun sc pe h=>⟨_,rfl,fun hb=>⟨h,beq_iff_eq.mp (Bool.and_eq_true_iff.mp (Bool.and_eq_true_iff.mp (Bool.and_eq_true_iff.mp hb).1).1).2⟩⟩
 cases e <;> first|exact main _ _ rfl|exact⟨false,rfl,fun h=>zf h⟩
theorem jDe{e:Expr}(h:zj e=true)(x:Str)(p:Pos)(line:Nat):swapsWith e (some (.Name x p)) line env=pure false:=by
 cases e <;> first|rfl|(cases h)
theorem vD(r:Ev)(k:Bool)(n:Nat)(sc:Scope)(l:jQ)(x:Str)(p pos:Pos)(e:Expr):vQ r k n sc l (.Assign [.Name x p] e pos)=if uj sc (.Name x p)=false then none else (r.E k sc (jV l) e).bind fun d=>
  if gL.contains x=true then (if zj e=true then d.asList?.map fun ds=>(.next,jA l x (.own ds)) else none) else some (.next,jA l x (.val d)):=rfl
theorem ownB_is{b:B}{ds:List D}(h:ownB? b=some ds):b= .own ds:=by
 induction b using cB with
 |own es=>rw[j6 h]
 |_=>exact nn h
theorem jDn(S:wt C n r){x:Str}{p pos:Pos}{e:Expr}{f:Fl}{Q:vo}(fs:FS C n k A env Y OL l s)(h:vQ r k n env.scope l (.Assign [.Name x p] e pos)=some (f,l'))(q:y9 C n k A env Y OL f l' s Q E):
  wpAny C.M A (exec (.Assign [.Name x p] e pos) env) Q E s:=by
 rw[vD] at h
 revert h;refine tN fun mA h=> ?_
 ·have mA:uj env.scope (.Name x p)=true:=by simpa using mA
  have hk:=jDy mA x (by simp[xh])
  refine bE h fun d hd h=> ?_
  refine ne ?_
  revert h;refine yU (fun _ h=> ?_) fun _ h=> ?_
  ·revert h;refine wL fun kM h=> ?_
   ··refine mE h fun ds wq h'=> ?_
     clear h
     obtain rfl:=wC wq
     cases h'
     refine wpAny_Assign_Name (S.F k A env (q6 OL++Y) (jV l) e ds s _ fs.pre kM hd fun a vs s1 kp hn ho hc hr=> ?_) (jDe kM x p _)
     refine fs.assignOwn kp hk hn ho hc hr fun s2 kw xa=> ?_
     exact q s2 [(x,a)] (fun p hp=>by replace hp:=j4.mp hp;subst hp;exact hn) kw xa
  ·obtain⟨hA,hB⟩:=Prod.mk.inj (j6 h);clear h;subst hA;subst hB
   refine jH (jEq (env:=env) e x p pos.line) fun b hb hbt=> ?_
   induction b using cT with
   |false=>
    refine wpAny_Assign_Name (S.E.at fs.pre hd fun v s1 kp p1 rv=> ?_) hb
    refine(fs.kp kp).assign hk rv fun s2 kw xa=> ?_
    exact q s2 [] (fun p hp=>by cases hp) ((KP.kw kp).trans kw) xa
   |true=>
    obtain⟨hc,hl⟩:=hbt rfl
    rw[exec_Assign_Name_used _ _ _ _ hb]
    refine wpAny_bind (wpAny_standAt (wpAny_bind ?_))
    have own:Own C (jB env) s.heap:=fs.own.sub fun a ha=>jz _ ha
    have mO:∀a∈jB env,a∈q6 OL++Y:=fun a ha=>jz _ (fs.wY a ha)
    refine S.U k A env (q6 OL++Y) (jB env) (jV l) e d x p s _ fs.pre hc own hl jk mO hd fun s2 kw p2 bK=>wpAny_pure ?_
    have sj:KW C (ZO OL env) s s2:=kw.mono fun b hb=>jz _ hb
    refine q s2 [] (fun p hp=>by cases hp) sj ⟨p2.weak fun y dy e=> ?_,fs.hP,fs.cY,fs.own.kw fs.pre.gr.tab kw,fs.wY,fs.nY,fs.ap,fs.cw,fun y ds hy=> ?_⟩
    ·unfold jV jA at e
     unfold jA
     by_cases h:y=x
     ·subst h;simp at e;subst e;simp
     ·rw[if_neg h] at e ⊢;exact e
    ·unfold jA at hy
     revert hy;refine yU (fun _ hy=> ?_) fun jv hy=> ?_
     ·cases hy
     ·refine yz (fs.lst y ds hy) fun a vs m h1 h2 h3 h4=> ?_
      have hn:=fs.frame_notOwn h1
      have dH:a≠C.P:=fs.own.ne a (xn _ (List.mem_map_of_mem (f:=(·.2)) h1))
      exact vL a vs m h1 (bK y _ jv h2) (kw.heap dH hn h3) (h4.kw kw fs.pre.hP mO)
theorem jAa(h:env.scope.kind= .function):interactive env=false:=by
 unfold interactive;rw[h];rfl
theorem appOne(S:wt C n r){x:Str}{xp ap cp pos:Pos}{arg:Expr}{ds:List D}{d:D}{Q:vo}(fs:FS C n k A env Y OL l s)(vG:(ap.endLine==cp.line)=true)(xo:isStarred arg=false)(hx1:(x==("__debug__":Str))=false)(mM:(x==("__classdict__":Str))=false)(hx:l x=some (.own ds))(hd:r.E k env.scope (jV l) arg=some d)(hl:ds.length<=lim)(q:y9 C n k A env Y OL .next (jA l x (.own (ds++[d]))) s Q E):
  wpAny C.M A (exec (.Expr (.Call (.Attribute (.Name x xp) "append" ap) [arg] [] cp) pos) env) Q E s:=by
 refine yz (fs.lst x ds hx) fun a vs mm h1 h2 h3 h4=> ?_
 refine ne (wpAny_Expr (E:=NE) ?_ (jAa fs.pre.eo.kind))
 have fF:a≠C.P:=fs.own.ne a (xn _ (List.mem_map_of_mem (f:=(·.2)) h1))
 have jw:lim=1000000:=rfl
 have hz:sizeLine=16777216:=by decide
 have hlen:=h4.length
 refine jBb fs.pre h2 h3 vG xo hx1 mM slot_list_append (by first|exact PySem.F.type_list_append|exact type_list_append) (S.E.at fs.pre hd fun v s1 kp p1 rv=> ?_)
 have g3:=kp.heap fF h3
 have g4:=q5.kp kp fs.pre.hP h4
 refine wpAny_list_append_plain (items:=vs.toArray) ⟨mm,g3⟩ (fun h' hp hs=> ?_) (by simp;lia)
 obtain⟨m',hp⟩:=hp
 have e:(vs.toArray.push v)=(vs++[v]).toArray:=by simp
 rw[e] at hp
 obtain⟨kw,xa⟩:=(fs.kp kp).grow (us:=vs++[v]) (es:=ds++[d]) h1 (h2.kp fs.pre.gr.tab kp) hp (g4.append (.cons rv .nil)) hs s1.toks nL
 exact q _ [] (fun p hp=>by cases hp) ((KP.kw kp).trans kw) xa
theorem extOne(S:wt C n r){x:Str}{xp ap cp pos:Pos}{arg:Expr}{ds es:List D}{Q:vo}(fs:FS C n k A env Y OL l s)(vG:(ap.endLine==cp.line)=true)(xo:isStarred arg=false)(hx1:(x==("__debug__":Str))=false)(mM:(x==("__classdict__":Str))=false)(hx:l x=some (.own ds))(hd:r.E k env.scope (jV l) arg=some (.list es))(hl:ds.length+es.length<=lim)(q:y9 C n k A env Y OL .next (jA l x (.own (ds++es))) s Q E):
  wpAny C.M A (exec (.Expr (.Call (.Attribute (.Name x xp) "extend" ap) [arg] [] cp) pos) env) Q E s:=by
 refine yz (fs.lst x ds hx) fun a vs mm h1 h2 h3 h4=> ?_
 refine ne (wpAny_Expr (E:=NE) ?_ (jAa fs.pre.eo.kind))
 have fF:a≠C.P:=fs.own.ne a (xn _ (List.mem_map_of_mem (f:=(·.2)) h1))
 have jw:lim=1000000:=rfl
 have hz:sizeLine=16777216:=by decide
 have hlen:=h4.length
 refine jBb fs.pre h2 h3 vG xo hx1 mM PySem.F.slot_list_extend PySem.F.type_list_extend (S.E.at fs.pre hd fun v s1 kp p1 rv=> ?_)
 have g3:=kp.heap fF h3
 have g4:=q5.kp kp fs.pre.hP h4
 refine jj rv.list_inv ?_;rintro b ws mb rfl ho rs
 have hlen2:=rs.length
 refine call_meets PySem.F.slot_list_extend ⟨_,g3,rfl⟩ PySem.F.entry_list_extend (PySem.F.args_list_extend_2 _ _) (PySem.AutoSeq1.list_extend_list_list_0 a vs.toArray mm b ws.toArray mb (by simp[Builtin.List.listTooLong];lia) (by simp;lia) (by simp;lia)) ⟨g3,(jM ho).1,?_⟩
 have ua:∃m',(s1.heap.update a (Obj.mapSeq fun x=>x++ws.toArray)).get? a=some (jc (vs++ws) m'):=by
  have e:∃m',Obj.mapSeq (fun x=>x++ws.toArray) (jc vs mm)=jc (vs++ws) m':=by
   have e1:vs.toArray++ws.toArray=(vs++ws).toArray:=by simp
   exact⟨_,by rw[jc,Obj.mapSeq,jc,e1]⟩
  obtain⟨m',e⟩:=e
  refine⟨m',?_⟩
  rw[Heap.get?_update_self _ g3 (by rw[e];rfl),e]
 obtain⟨m',ua⟩:=ua
 obtain⟨kw,xa⟩:=(fs.kp kp).grow (us:=vs++ws) (es:=ds++es) h1 (h2.kp fs.pre.gr.tab kp) ua (g4.append rs) (Heap.SameBut.update ..) s1.toks nL
 exact q _ [] (fun p hp=>by cases hp) ((KP.kw kp).trans kw) xa
theorem jDo(S:wt C n r){x m:Str}{xp ap cp pos:Pos}{arg:Expr}{f:Fl}{Q:vo}(fs:FS C n k A env Y OL l s)(h:dT r k env.scope l x m ap arg cp=some (f,l'))(q:y9 C n k A env Y OL f l' s Q E):
  wpAny C.M A (exec (.Expr (.Call (.Attribute (.Name x xp) m ap) [arg] [] cp) pos) env) Q E s:=by
 unfold dT at h
 revert h;refine yU (fun _ h=> ?_) fun hg h=> ?_
 ·exact nn h
 ·rw[not_or,not_or,not_or,Bool.not_eq_false,Bool.not_eq_true,Bool.not_eq_true,Bool.not_eq_true] at hg
  refine bE h fun ds aE h0=> ?_
  refine bE aE fun b0 hx hb0=> ?_
  refine bE h0 fun d hd h1=> ?_
  rw[ownB_is hb0] at hx
  clear h h0 aE hb0
  revert h1;refine yU (fun hm h1=> ?_) fun _ h1=> ?_
  ·revert h1;refine yU (fun hl h1=> ?_) fun _ h1=> ?_
   ·obtain⟨hA,hB⟩:=Prod.mk.inj (j6 h1);clear h1;subst hA;subst hB
    subst hm
    exact appOne S fs hg.1 hg.2.1 hg.2.2.1 hg.2.2.2 hx hd hl q
   ·exact nn h1
  ·revert h1;refine yU (fun hm h1=> ?_) fun _ h1=> ?_
   ·refine bE h1 fun es lZ h2=> ?_
    rw[wC lZ] at hd
    revert h2;refine yU (fun hl h2=> ?_) fun _ h2=> ?_
    ·obtain⟨hA,hB⟩:=Prod.mk.inj (j6 h2);clear h2;subst hA;subst hB
     subst hm
     exact extOne S fs hg.1 hg.2.1 hg.2.2.1 hg.2.2.2 hx hd hl q
    ·exact nn h2
   ·exact nn h1
theorem jEw(S:wt C n r){c:Str}{np cp pos:Pos}{a:Expr}{f:Fl}{Q:vo}(fs:FS C n k A env Y OL l s)(h:fZ r k env.scope l (.Call (.Name c np) [a] [] cp)=some (f,l'))(q:y9 C n k A env Y OL f l' s Q E):
  wpAny C.M A (exec (.Raise (some (.Call (.Name c np) [a] [] cp)) none pos) env) Q E s:=by
 replace h:(if (c≠"error_reply"/\c≠"error_proto")\/env.scope.names.lookup c≠some .globalImplicit\/isStarred a=true then none else (r.E k env.scope (jV l) a).map fun d=>(Fl.exc c d,l))=some (f,l'):=h
 revert h;refine tN fun hg h=> ?_
 ·simp only[not_or,Decidable.not_and_iff_not_or_not,Decidable.not_not,Bool.not_eq_true] at hg
  refine yD hg fun hc hk xo=> ?_;clear hg
  refine mE h fun d hd h=> ?_
  cases h
  obtain⟨xC,xE,kX,mR,mP,eR,eP,_⟩:=fs.pre.bs.exc
  obtain⟨cl,hm,he⟩:∃cl,C.mg c=some (.ref cl)/\nH C.g0 cl kX:=by
   rcases hc with rfl|rfl
   ·exact⟨_,mR,eR⟩
   ·exact⟨_,mP,eP⟩
  obtain⟨nm,qn,Nn,bs,hdct,sn,sub,ab,col,dd,k0,k1,k2,k3,k5,newId,Bn,inN,bmN,c0,sW,cd,sl,mN,mE,Fn,hBn,xq,hN,hmN,hclE,hNE,hmE⟩:=he
  have hdbg:(c==("__debug__":Str))=false:=by rcases hc with rfl|rfl <;> decide
  have T:OwnTail C.g0 uI (.ref kX::uI):= .own hclE hNE (hmE _ kD) .base
  refine wpAny_Raise_call_subU (C:=cl) (nm:=nm) (q:=qn) (bs:=bs) (hdct:=hdct) (sn:=sn) (sub:=sub) (ab:=ab) (col:=col) (dd:=dd) (k0:=k0) (k1:=k1) (k2:=k2) (k3:=k3) (k5:=k5) (N:=Nn) (bm:= .ref kX::uI) (bmB:=uI) (mN:=mN) Fn hBn F.excBase_Exception (T.hasType (b:=true) kD) fs.pre.a.handled (plain_any fun e he=>by replace he:=j4.mp he;subst he;exact xo) (hmN _ kD) ?_
  refine ne (ql fs.pre hk hm hdbg ⟨rfl,?_⟩)
  rw[jN xo]
  refine evalArgs_plain (spliced_cons (ne (S.E.at fs.pre hd fun v s1 kp p1 rv=>spliced_nil ?_)))
  have kg:=p1.gr.keep
  refine⟨rfl,by simp;decide,kg _ _ xq,hN.keeps kg,T.keeps kg,fun h' e lU=> ?_⟩
  refine xQ lU.there fun t h1 h2 h3=> ?_
  have yf:KP C s1 { s1 with heap:=h' }:=KP.of nL lU.keeps
  have kw:KW C (ZO OL env) s { s1 with heap:=h' }:=(kp.trans yf).kw
  have eS:=RD.kp yf fs.pre.hP rv
  exact q e t cl v _ kw (xX kp.kw fs.pre.gr.tab (Z:=fun _=>False) lU.new) hm h1 (xX kp.kw fs.pre.gr.tab (Z:=fun _=>False) h2) h3 (Mine.R.mono (jh fun a ha=>jz _ ha) eS) (by
   obtain⟨m,hm⟩:=p1.fm.ns
   exact⟨m,hm.keeps lU.keeps⟩)
theorem jC6(S:wt C n r){e:Expr}{pos:Pos}{f:Fl}{Q:vo}(fs:FS C n k A env Y OL l s)(h:vQ r k n env.scope l (.Return (some e) pos)=some (f,l'))(q:y9 C n k A env Y OL f l' s Q E):
  wpAny C.M A (exec (.Return (some e) pos) env) Q E s:=by
 refine mE (show (r.E k env.scope (qx l) e).map (fun d=>(Fl.ret d,l))=some (f,l') from h) fun d hd h=> ?_
 cases h
 exact ne (wpAny_Return_some (S.E.at fs.all hd fun v s1 kp p1 rv=>q v s1 kp.kw rv))
theorem jJh(S:wt C n r)(a1:yW (n+1) A){t:Expr}{a b:List Stmt}{pos:Pos}{f:Fl}{Q:vo}(fs:FS C n k A env Y OL l s)(h:vQ r k n env.scope l (.If t a b pos)=some (f,l'))(q:y9 C n k A env Y OL f l' s Q E):
  wpAny C.M A (exec (.If t a b pos) env) Q E s:=by
 refine bE (show (Bt r k env.scope (qx l) 4 t).bind (fun c=>if c=true then qV r k env.scope l a else qV r k env.scope l b)=some (f,l') from h) fun c hc h=> ?_
 refine wpAny_If (ne (gQ S.E a1 4 fs.all hc fun s1 kp p1=> ?_))
 have t0:=fs.pre.gr.tab
 induction c using cT with
 |true=>exact xY S.S a OL l l' f s1 Q E (fs.kp kp) h (q.kp t0 kp)
 |false=>exact xY S.S b OL l l' f s1 Q E (fs.kp kp) h (q.kp t0 kp)
theorem KW.ofLoop(kp:KP C s s1)(hn:∀a∈J,s.heap.get? a=none)(h:oV C J OL env s1 s2):KW C (ZO OL env) s s2:=by
 refine jH h fun sm kw kj=> ?_;clear h
 exact((KP.kw kp).trans kw).lastJ hn kj fun b hb=>hb.symm
theorem jJ2{a:D}{i:List D}(h:a.asTup? =some i):a= .tup i:=by
 induction a using cD with
 |tup j=>rw[j6 h]
 |_=>exact nn h
theorem jDr{α β:Type}{as:List α}{k1:α->Option β}{d:β}(h:zR as k1 (fun _ _=>none)=some d):∃a,as=[a]/\k1 a=some d:=by
 induction as using cL with
 |nil=>exact nn h
 |cons a as=>
  induction as using cL with
  |nil=>exact⟨a,rfl,h⟩
  |cons b as=>induction as using cL with
   |nil=>exact nn h
   |cons _ _=>exact nn h
theorem uY{e f a:Expr}{p:Pos}(h:call1? e=some (f,a,p)):e= .Call f [a] [] p:=by
 induction e using cE with
 |Call g as ks q=>
  induction ks using cL with
  |nil=>
   refine jH (jDr (show zR as (fun a=>some (g,a,q)) (fun _ _=>none)=some (f,a,p) from h)) fun b h0 h1=> ?_
   obtain⟨h2,h3⟩:=Prod.mk.inj (j6 h1)
   obtain⟨h4,h5⟩:=Prod.mk.inj h3
   rw[h0,h2,h4,h5]
  |cons _ _=>exact nn h
 |_=>exact nn h
theorem jJ1{e:Expr}{x m:Str}{p:Pos}(h:attrN? e=some (x,m,p)):∃q,e= .Attribute (.Name x q) m p:=by
 induction e using cE with
 |Attribute o m2 p2=>
  refine mE (show (nameE? o).map (fun x=>(x,m2,p2))=some (x,m,p) from h) fun y h1 h2=> ?_
  obtain⟨q,e⟩:=yn h1
  obtain⟨h3,h4⟩:=Prod.mk.inj h2
  obtain⟨h5,h6⟩:=Prod.mk.inj h4
  exact⟨q,by rw[e,h3,h5,h6]⟩
 |_=>exact nn h
theorem enum_is{i:Expr}(h:xg i=true):∃f p e qp,i= .Call (.Name f p) [e] [] qp/\f="enumerate":=by
 refine jH ((Option.any_eq_true _ _).mp h) fun x h1 h2=> ?_
 refine bE h1 ?_;rintro ⟨f,e,qp⟩ h3 h4
 obtain⟨p,h5⟩:=yn h4
 exact⟨x,p,e,qp,by rw[uY h3];exact congrArg (fun f=>Expr.Call f [e] [] qp) h5,of_decide_eq_true h2⟩
set_option tactic.hygienic true in
theorem jHy(S:wt C n r)(a1:yW (n+1) A){t i:Expr}{its:List D}{Q:q4}(hE:(vV t|| !xg i)=true)(fs:FS C n k A env Y OL l s)(h:zV r k env.scope (jV l) i=some its)
  (q:∀I J s',KP C s s'->(∀a∈J,s.heap.get? a=none)->FS C n k A env (J++Y) OL l s'->Own C J s'.heap->SrcR C A t (q6 OL++(J++Y)) I J its s'.heap->Q (.ref I) s'):
  wpAny C.M A (eval i env) (fun x s₁=>wpAny C.M A (pyIter x) Q E s₁) E s:=by
 unfold zV at h
 by_cases hI:xg i=true
 rotate_left
 ·rw[if_neg hI] at h
  refine bE h fun d h1 h2=> ?_
  refine ne (S.E.at fs.pre h1 fun v s1 kp p1 rv=>ne (yL p1.a.handled p1.lt rv h2 fun h' hk it=> ?_))
  have qP:=fs.kp kp
  have wX:s1.heap.get? s1.heap.objs.size=none:=qy _
  refine jH it.obj fun oi uk _=> ?_
  have yf:KP C s1 { s1 with heap:=h' }:=KP.of nL hk
  refine q s1.heap.objs.size [s1.heap.objs.size] _ (kp.trans yf) (fun a ha=>by replace ha:=j4.mp ha;subst ha;exact xX kp.kw fs.pre.gr.tab (Z:=fun _=>False) wX) (qP.moreJ (J:=[s1.heap.objs.size]) yf (fun a ha=>by replace ha:=j4.mp ha;subst ha;exact wX) fun a ha=>by replace ha:=j4.mp ha;subst ha;exact⟨oi,uk⟩)
   (Own.fresh p1.gr.tab (fun a ha e=> ?_) hk (fun a ha=>by replace ha:=j4.mp ha;subst ha;exact wX) fun a ha=>by replace ha:=j4.mp ha;subst ha;exact⟨oi,uk⟩) (SrcR.ofIt (by simp) (it.perm fun b=> ?_))
  ·replace ha:=j4.mp ha;subst ha
   obtain⟨o,ho⟩:=p1.hYs C.P p1.hP
   rw[<-e,wX] at ho;exact zn ho
  ·simp only[List.mem_append,List.mem_cons,j4,List.not_mem_nil,or_false]
   constructor
   ·rintro (h|h|h)
    ·exact .inr (.inl h)
    ·exact .inl h
    ·exact .inr (.inr h)
   ·rintro (h|h|h)
    ·exact .inr (.inl h)
    ·exact .inl h
    ·exact .inr (.inr h)
 ·rw[if_pos hI] at h
  refine ue (enum_is hI) ?_;rintro f p e qp rfl hf
  replace h:ou r k env.scope (jV l) e=some its:=h
  unfold ou at h
  revert h;refine wL fun fz h=> ?_
  ·obtain⟨fz,jv⟩:=fz
   refine bE h fun dd he h2=> ?_
   refine bE h2 fun ds wq h3=> ?_
   rw[jJ2 wq] at he
   clear h h2 wq
   ·revert h3;refine wL fun hl h3=> ?_
    ·replace h3:=j6 h3;subst h3
     subst hf
     refine ne (Call_Name rfl (xZ (v:= .type "enumerate") fs.pre fz kD (by rfl) kD ?_))
     refine callWith_type1 ?_ (jN jv) (by rfl)
     rw[jN jv]
     refine spliced_cons (S.E.at fs.pre he fun v s1 kp p1 rv=>spliced_nil ?_)
     refine jj rv.tup_inv ?_;rintro a vs m rfl ho rs
     obtain⟨ho,iQ⟩:=jM ho
     refine jF7 ho fun h' hV hit dE hk=> ?_
     refine wpAny_pyIter_enum hV ?_
     have qP:=fs.kp kp
     have wX:s1.heap.get? s1.heap.objs.size=none:=qy _
     have mS:s1.heap.get? (s1.heap.objs.size+1)=none:=none_of fun⟨o,e⟩=>absurd (Heap.lt_size e) (Nat.not_lt.mpr (Nat.le_succ _))
     refine jH (id hit) fun oi uk _=> ?_
     have yf:KP C s1 { s1 with heap:=h' }:=KP.of nL hk
     have tV:∀a∈[s1.heap.objs.size+1,s1.heap.objs.size],s1.heap.get? a=none:=fun a ha=>by
      simp at ha;rcases ha with rfl|rfl
      ·exact mS
      ·exact wX
     have au:∀a∈[s1.heap.objs.size+1,s1.heap.objs.size],∃o,h'.get? a=some o:=fun a ha=>by
      simp at ha;rcases ha with rfl|rfl
      ·exact⟨_,hV⟩
      ·exact⟨_,uk⟩
     have vF:=Heap.lt_size ho
     have hTup:∃ts kd tp,t= .Tuple ts kd tp:=by
      rw[hI] at hE
      cases t <;> first|exact⟨_,_,_,rfl⟩|(exact Bool.noConfusion hE)
     obtain⟨ts,kd,tp,rfl⟩:=hTup
     refine q (s1.heap.objs.size+1) [s1.heap.objs.size+1,s1.heap.objs.size] _ (kp.trans yf) (fun a ha=>xX kp.kw fs.pre.gr.tab (Z:=fun _=>False) (tV a ha)) (qP.moreJ yf tV au) (Own.fresh p1.gr.tab (fun a ha e=> ?_) hk tV au)
      (SrcR.enumT p1.a.handled hV hit (hk _ _ ho) (Nat.succ_ne_self _) (Nat.ne_of_lt (Nat.lt_succ_of_lt vF)) (Nat.ne_of_lt vF) ?_ (q5.moreL yf p1.hP tV (fun b hb=> ?_) rs))
     ·obtain⟨o,ho⟩:=p1.hYs C.P p1.hP
      rw[<-e,tV a ha] at ho;exact zn ho
     ·intro hm
      simp only[List.mem_append] at hm iQ
      rcases hm with h|h|h
      ·exact iQ (.inl h)
      ·rw[tV a h] at ho;exact zn ho
      ·exact iQ (.inr h)
     ·simp only[List.mem_append] at hb ⊢
      rcases hb with h|h|h
      ·exact .inr (.inl h)
      ·exact .inl h
      ·exact .inr (.inr h)
theorem jH4(S:wt C n r)(a1:yW (n+1) A){t i:Expr}{body orelse:List Stmt}{pos:Pos}{f:Fl}{Q:vo}(fs:FS C n k A env Y OL l s)(h:tu r k env.scope l t i body orelse=some (f,l'))(q:y9 C n k A env Y OL f l' s Q E):
  wpAny C.M A (exec (.For t i body orelse pos) env) Q E s:=by
 unfold tu at h
 revert h;refine tN fun hg h=> ?_
 ·simp only[Bool.not_eq_false,Bool.and_eq_true,Bool.not_eq_true'] at hg
  obtain⟨⟨hT,wJ⟩,hE⟩:=hg
  refine bE h fun its h1 h=> ?_
  refine bE h ?_;rintro ⟨f1,l1⟩ h2 h
  have t0:=fs.pre.gr.tab
  refine wpAny_For (jHy S a1 hE fs h1 fun I J s1 kp hn qP oJ src=> ?_) (vz wJ env)
  have hJ:∀a∈J,a∉Y:=fun a ha hm=>by
   obtain⟨o,e⟩:=fs.pre.hYs a (jz _ hm)
   rw[hn a ha] at e;exact zn e
  have fresh:∀(N:yV),(∀p∈N,s1.heap.get? p.2=none)->∀p∈N,s.heap.get? p.2=none:=fun N hN p hp=>xX kp.kw t0 (Z:=fun _=>False) (hN p hp)
  refine jB6 S hT h2 qP src hJ oJ fs.hP fs.cY fs.wY (fun hf s2 N hN lt xa=> ?_) (fun hf s2 N hN lt xa=> ?_) fun d hf v s2 lt rd=> ?_
  ·subst hf
   refine bE h ?_;rintro ⟨f2,l2⟩ h3 h4
   have kw:=KW.ofLoop kp hn lt
   refine xY S.S orelse (N++OL) l1 l2 f2 s2 _ _ xa h3 ?_
   have q2:y9 C n k A env Y (N++OL) f l' s2 Q E:=q.step t0 (fresh N hN) kw
   induction f2 using cF with
   |next=>(obtain⟨hA,hB⟩:=Prod.mk.inj (j6 h4);clear h4;subst hA;subst hB);exact q2
   |brk=>(obtain⟨hA,hB⟩:=Prod.mk.inj (j6 h4);clear h4;subst hA;subst hB);exact q2
   |ret d=>(obtain⟨hA,hB⟩:=Prod.mk.inj (j6 h4);clear h4;subst hA;subst hB);exact q2
   |exc c d=>cases h4
  ·subst hf
   obtain⟨hA,hB⟩:=Prod.mk.inj (j6 h);clear h;subst hA;subst hB
   exact q s2 N (fresh N hN) (KW.ofLoop kp hn lt) xa
  ·subst hf
   obtain⟨hA,hB⟩:=Prod.mk.inj (j6 h);clear h;subst hA;subst hB
   exact q v s2 (KW.ofLoop kp hn lt) rd
variable{fns:List (Str×Fn)}{glob:xO}
inductive WInv (C:Cx) (n:Nat) (fns:List (Str×Fn)) (glob:xO) (k:Bool) (A:Around) (env:Env) (Y:List Addr) (OL:yV) (s:Shared) (st:Stmt) (f:Fl) (l1:jQ) (m:Nat) (s1:Shared):Prop
 |mk:∀l' N,m<=n->vQ (ev fns glob m) k m env.scope l' st=some (f,l1)->(∀p∈N,s.heap.get? p.2=none)->FS C n k A env Y (N++OL) l' s1->KW C (ZO OL env) s s1->WInv C n fns glob k A env Y OL s st f l1 m s1
theorem jEm(H:∀m,m<=n->wt C m (ev fns glob m))(a1:yW (n+1) A){t:Expr}{body:List Stmt}{pos:Pos}{f:Fl}{Q:vo}(fs:FS C n k A env Y OL l s)(h:vQ (ev fns glob n) k n env.scope l (.While t body [] pos)=some (f,l'))(q:y9 C n k A env Y OL f l' s Q E):
  wpAny C.M A (exec (.While t body [] pos) env) Q E s:=by
 have t0:=fs.pre.gr.tab
 refine wpAny_While (codeAny_whileLoop (WInv C n fns glob k A env Y OL s (.While t body [] pos) f l') ?_ n ⟨l,[],Nat.le_refl _,h,fun p hp=>(by cases hp),fs,KW.refl s⟩)
 intro m s1 y0
 obtain⟨l1,N,hm,h,hN,qP,gR⟩:=y0
 have S:=H m hm
 replace h:eJ (ev fns glob m) k m env.scope l1 t body (.While t body [] pos)=some (f,l'):=h
 unfold eJ at h
 refine bE h fun b hb h=> ?_
 refine ne (gQ S.E (a1.mono (Nat.succ_le_succ hm)) 4 (qP.lo hm).all hb fun s2 kp p2=> ?_)
 have z5:KW C (ZO OL env) s s2:=gR.trans kp.kw
 induction b using cT with
 |false=>
  simp only[Bool.false_eq_true,if_false] at h ⊢
  obtain⟨hA,hB⟩:=Prod.mk.inj (j6 h);clear h;subst hA;subst hB
  exact wpAny_execs_nil (q s2 N hN z5 (qP.kp kp))
 |true=>
  simp only[if_true] at h ⊢
  refine bE h ?_;rintro ⟨f3,l3⟩ h3 h
  refine xY S.S body (N++OL) l1 l3 f3 s2 _ _ ((qP.kp kp).lo hm) h3 ?_
  have up:∀(N2:yV),(∀p∈N2,s2.heap.get? p.2=none)->∀p∈N2++N,s.heap.get? p.2=none:=fun N2 tE p hp=>by
   rcases jq.mp hp with hp|hp
   ·exact xX z5 t0 (tE p hp)
   ·exact hN p hp
  induction f3 using cF with
  |next=>
   intro s4 N2 tE yx yw
   induction m using cN with
   |zero=>cases h
   |succ m=>
    refine⟨m,Nat.lt_succ_self m,l3,N2++N,Nat.le_of_succ_le hm,h,up N2 tE,by rw[List.append_assoc];exact yw.hi fs.pre.a,z5.transNew yx (vP hN)⟩
  |brk=>
   obtain⟨hA,hB⟩:=Prod.mk.inj (j6 h);clear h;subst hA;subst hB
   intro s4 N2 tE yx yw
   exact q s4 (N2++N) (up N2 tE) (z5.transNew yx (vP hN)) (by rw[List.append_assoc];exact yw.hi fs.pre.a)
  |ret d=>
   obtain⟨hA,hB⟩:=Prod.mk.inj (j6 h);clear h;subst hA;subst hB
   intro v s4 yx rd
   exact q v s4 (z5.transNew yx (vP hN)) rd
  |exc c d=>cases h
theorem assS_is{sc:Scope}{ts:List Expr}{e:Expr}{z:Fl×jQ}(h:assS r k sc l ts e=some z):∃x p,ts=[.Name x p]:=by
 refine jH (jDr h) ?_;rintro t rfl h
 refine bE h fun x h1 _=> ?_
 obtain⟨p,rfl⟩:=yn h1
 exact⟨x,p,rfl⟩
theorem jJo{sc:Scope}{e:Expr}{z:Fl×jQ}(h:exprS r k sc l e=some z):∃x p m ap a cp,e= .Call (.Attribute (.Name x p) m ap) [a] [] cp/\dT r k sc l x m ap a cp=some z:=by
 refine bE h ?_;rintro ⟨f,a,cp⟩ h1 h2
 refine bE h2 ?_;rintro ⟨x,m,ap⟩ h3 h4
 obtain⟨p,e3⟩:=jJ1 h3
 exact⟨x,p,m,ap,a,cp,by rw[uY h1];exact congrArg (fun f=>Expr.Call f [a] [] cp) e3,h4⟩
theorem jHi{sc:Scope}{e:Expr}{z:Fl×jQ}(h:fZ r k sc l e=some z):∃c np a cp,e= .Call (.Name c np) [a] [] cp:=by
 refine bE h ?_;rintro ⟨f,a,cp⟩ h1 h2
 refine bE h2 fun c h3 _=> ?_
 obtain⟨p,e3⟩:=yn h3
 exact⟨c,p,a,cp,by rw[uY h1];exact congrArg (fun f=>Expr.Call f [a] [] cp) e3⟩
theorem SS_step(H:∀m,m<=n->wt C m (ev fns glob m)):SS C (n+1) (ev fns glob (n+1)):=by
 intro k A env Y OL l st f l' s Q E fs h q
 have a1:=fs.pre.a
 have S:=H n nL
 have nk:=fs.lo (Nat.le_succ n)
 have q0:=y9.lo a1 q (m:=n)
 clear q
 replace h:vQ (ev fns glob n) k n env.scope l st=some (f,l'):=h
 induction st using cS with
 |Assign ts e pos=>
  refine pA (assS_is h) ?_;rintro x p rfl
  exact jDn S nk h q0
 |Expr e pos=>
  obtain⟨x,p,m,ap,a,cp,rfl,h2⟩:=jJo h
  exact jDo S nk h2 q0
 |If t a b pos=>exact jJh S a1 nk h q0
 |For t i body orelse pos=>exact jH4 S a1 nk h q0
 |While t body orelse pos=>
  induction orelse using cL with
  |nil=>exact jEm H a1 nk h q0
  |cons _ _=>exact nn h
 |Return e pos=>
  induction e using cO with
  |some e=>exact jC6 S nk h q0
  |none=>exact nn h
 |Break pos=>
  obtain⟨hA,hB⟩:=Prod.mk.inj (j6 h);clear h;subst hA;subst hB
  exact wpAny_Break (q0 s [] (fun p hp=>by cases hp) (KW.refl s) nk)
 |Raise e c pos=>
  induction c using cO with
  |some _=>exact nn h
  |none=>
   induction e using cO with
   |none=>exact nn h
   |some e=>
    obtain⟨c,np,a,cp,rfl⟩:=jHi h
    exact jEw S nk h q0
 |_=>exact nn h
theorem jAy{ns:List Str}{vs:List Value}(hl:ns.length=vs.length):∀n∈ns,((ns.zip vs).lookup n).isSome=true:=by
 induction ns generalizing vs with
 |nil=>intro n hn;cases hn
 |cons m ns ih=>
  match vs,hl with
  |v::vs,hl=>
   intro n hn
   rw[List.zip_cons_cons,List.lookup_cons]
   by_cases e:n=m
   ·subst e;simp
   ·have e':(n==m)=false:=by simpa using e
    rw[e']
    rcases j0.mp hn with h|h
    ·exact absurd h e
    ·exact ih (by simpa using hl) n h
theorem jB1{ns:List Str}{vs:List Value}(hl:ns.length=vs.length)(hn:ns.Nodup):ns.filterMap (fun n=>((ns.zip vs).lookup n).map (n,·))=ns.zip vs:=by
 have key:∀(ns:List Str) (vs:List Value) (L:mL),ns.length=vs.length->ns.Nodup->(∀p∈ns.zip vs,L.lookup p.1=some p.2)->ns.filterMap (fun n=>(L.lookup n).map (n,·))=ns.zip vs:=by
  intro ns
  induction ns with
  |nil=>intro vs L _ _ _;rfl
  |cons n ns ih=>
   intro vs L hl hn h
   match vs,hl with
   |v::vs,hl=>
    rw[List.filterMap_cons,h (n,v) jk,List.zip_cons_cons]
    simp only[Option.map_some]
    rw[ih vs L (by simpa using hl) (y7.mp hn).2 fun p hp=>h p (qO _ hp)]
 refine key ns vs _ hl hn ?_
 have l2:∀(ns:List Str) (vs:List Value),ns.Nodup->∀p∈ns.zip vs,(ns.zip vs).lookup p.1=some p.2:=by
  intro ns
  induction ns with
  |nil=>intro vs _ p hp;cases hp
  |cons n ns ih=>
   intro vs hn p hp
   match vs with
   |[]=>cases hp
   |v::vs=>
    rw[List.zip_cons_cons] at hp ⊢
    rcases j0.mp hp with rfl|hp
    ·simp
    ·have hk:p.1∈ns:=(List.of_mem_zip hp).1
     have jv:p.1≠n:=fun e=>(y7.mp hn).1 (e▸hk)
     have e':(p.1==n)=false:=by simpa using jv
     rw[List.lookup_cons,e']
     exact ih vs (y7.mp hn).2 p hp
 exact l2 ns vs hn
theorem eF{α β:Type}{m:Sem α}{a:α}{f:α->Sem β}{r:Sem β}(h:m=pure a)(h2:f a=r):(m >>=f)=r:=by rw[h,pure_bind];exact h2
theorem iA{c:Prop}[Decidable c]{α:Type}{A B r:α}(h:¬c)(h2:B=r):(if c then A else B)=r:=(if_neg h).trans h2
theorem nomiss{α:Type}{l:List α}(e:l=[]):¬((!l.isEmpty)=true):=by rw[e];exact Bool.false_ne_true
theorem missnil{names:List Str}{l:List Value}{k:Nat}{p:Str->Bool}(hl:l=[])(h2:(names.take names.length).filter p=[]):(names.take (names.length - (l.drop k).length)).filter p=[]:=by rw[hl,List.drop_nil];exact h2
theorem forzip{α β σ:Type}{l:List α}{s:σ}{d:List β}{f:α×β->σ->Sem (ForInStep σ)}(hd:d=[]):forIn (l.zip d) s f=pure s:=by rw[hd,List.zip_nil_right];rfl
theorem appnil{α β:Type}{names l:List α}{f:α->Option β}{r:List β}(hl:l=[])(h3:names.filterMap f=r):(names++l).filterMap f=r:=by rw[hl,List.append_nil];exact h3
theorem bindA{fd:FuncData}{as:List Arg}{vs:List Value}{kd:List (Option Expr)}{dl:List Expr}(hp:fd.params=⟨[],as,none,[],kd,none,dl⟩)(hd:fd.defaults= .none)(h1:decide (vs.length > (as.map (·.arg)).length)=false)(h2:((List.take (as.map (·.arg)).length (as.map (·.arg))).filter fun n=>(((as.map (·.arg)).zip vs).lookup n).isNone)=[])(h3:(as.map (·.arg)).filterMap (fun n=>(((as.map (·.arg)).zip vs).lookup n).map (n,·))=(as.map (·.arg)).zip vs):bindArgs fd ⟨vs,[]⟩=pure ((as.map (·.arg)).zip vs):=by
 obtain⟨nm,qn,ps,body,sc,gl,cl,df⟩:=fd
 subst hp;subst hd
 refine eF (a:=((as.map (·.arg)).zip vs,[])) rfl ?_
 refine eF (a:=none) rfl ?_
 refine iA (fun h=>Bool.noConfusion (h1.symm.trans (Bool.and_eq_true_iff.mp h).1)) ?_
 refine iA (nomiss (missnil rfl h2)) ?_
 refine eF (forzip List.drop_nil) ?_
 refine eF (a:=((as.map (·.arg)).zip vs,[])) rfl ?_
 refine iA (fun h=>Bool.noConfusion h) ?_
 exact congrArg pure (appnil rfl h3)
theorem jIv{p:Arguments}(hp:zq p=true):p=⟨[],p.args,none,[],p.kw_defaults,none,p.defaults⟩/\(p.args.map (·.arg)).Nodup:=by
 unfold zq at hp
 simp only[Bool.and_eq_true,decide_eq_true_eq,List.isEmpty_iff,Option.isNone_iff_eq_none] at hp
 obtain⟨⟨⟨⟨h1,h2⟩,h3⟩,h4⟩,h5⟩:=hp
 obtain⟨po,as,va,ko,kd,kw,df⟩:=p
 subst h1;subst h2;subst h3;subst h4
 exact⟨rfl,h5⟩
theorem qc{fd:FuncData}{vs:List Value}(hp:zq fd.params=true)(hd:fd.defaults= .none)(hl:fd.params.args.length=vs.length):bindArgs fd ⟨vs,[]⟩=pure ((fd.params.args.map (·.arg)).zip vs):=by
 obtain⟨e,hn⟩:=jIv hp
 have bI:(fd.params.args.map (·.arg)).length=vs.length:=by rw[List.length_map];exact hl
 refine bindA e hd (decide_eq_false (by rw[bI];exact Nat.lt_irrefl _)) ?_ (jB1 bI hn)
 rw[List.take_length]
 refine List.filter_eq_nil_iff.mpr fun n hn=> ?_
 have:=jAy bI n hn
 rw[Option.isSome_iff_exists] at this
 obtain⟨v,e⟩:=this
 rw[e];exact Bool.false_ne_true
theorem xB:∀{xs:List Str} {ds:List D} {l:jQ},y5 xs ds=some l->∀x,l x=((xs.zip ds).lookup x).map .val
 |[],[],l,h,x=>by (replace h:=j6 h;subst h);rfl
 |[],_::_,l,h,x=>by cases h
 |_::_,[],l,h,x=>by cases h
 |y::xs,d::ds,l,h,x=>by
  refine mE (show (y5 xs ds).map (fun l=>jA l y (.val d))=some l from h) ?_;rintro l0 h0 rfl
  unfold jA
  rw[List.zip_cons_cons,List.lookup_cons]
  by_cases e:x=y
  ·subst e;simp
  ·have e':(x==y)=false:=by simpa using e
   rw[if_neg e,e',xB h0 x]
theorem wA:∀{xs:List Str} {ds:List D} {l:jQ},y5 xs ds=some l->xs.length=ds.length
 |[],[],l,h=>rfl
 |[],_::_,l,h=>by cases h
 |_::_,[],l,h=>by cases h
 |y::xs,d::ds,l,h=>by
  refine mE (show (y5 xs ds).map (fun l=>jA l y (.val d))=some l from h) fun l0 h0 _=> ?_
  rw[List.length_cons,List.length_cons,wA h0]
theorem pE{H:HV}:∀{xs:List Str} {vs:List Value} {ds:List D},Rs C.prog C.w H vs ds->∀x d,(xs.zip ds).lookup x=some d->∃v,(xs.zip vs).lookup x=some v/\R C.prog C.w H v d
 |[],_,_,_,x,d,h=>by cases h
 |y::xs,[],_,.nil,x,d,h=>by cases h
 |y::xs,v::vs,e::ds,.cons r rs,x,d,h=>by
  rw[List.zip_cons_cons,List.lookup_cons] at h ⊢
  generalize hb:(x==y)=x0;induction x0 using cT with
  |true=>rw[hb] at h;replace h:=j6 h;subst h;exact⟨v,rfl,r⟩
  |false=>rw[hb] at h;exact pE rs x d h
theorem jAf{L:mL}(hn:(L.map (·.1)).Nodup)(x:Str):L.reverse.lookup x=L.lookup x:=by
 induction L with
 |nil=>rfl
 |cons p L ih=>
  obtain⟨y,v⟩:=p
  obtain⟨h1,h2⟩:=y7.mp (show (y::L.map (·.1)).Nodup from hn)
  rw[List.reverse_cons,List.lookup_append,ih h2,List.lookup_cons]
  generalize hb:(x==y)=x0;induction x0 using cT with
  |true=>
   have e:x=y:=beq_iff_eq.mp hb
   subst e
   have:L.lookup x=none:=by
    rw[List.lookup_eq_none_iff]
    intro p hp
    simp only[bne_iff_ne,ne_eq]
    intro e
    exact h1 (vK.mpr ⟨p,hp,e.symm⟩)
   rw[this];simp
  |false=>simp[List.lookup_cons,hb]
set_option tactic.hygienic true in
theorem jJs{sc:Scope}{L:Addr}{qual:Str}{func:Option Addr}{code:Value}{h':Heap}{tk:Nat}{l0:jQ}{names:List Str}{vs:List Value}{as:List D}(bs:Base C)(g:Gr C s)(hP:C.P∈Y)(hY:∀a∈Y,C.g0.get? a=none)(hYs:∀a∈Y,∃o,s.heap.get? a=some o)
  (ha:yW n A) (kind:sc.kind= .function) (dh:∀x,sc.names.lookup x≠some .free) (kL:(names.zip vs).map (·.1) |>.Nodup) (hL:L=s.heap.objs.size) (he:env=newEnv sc L mainGlobals (cellsFrom (L+1) sc.names []) qual func code none builtinsNs)
  (ht:s.toks<=tk) (hk:∀b o,s.heap.get? b=some o->h'.get? b=some o) (fm:dP env h') (hv:∀x v,(names.zip vs).reverse.lookup x=some v->jt env h' x v) (hb:y5 names as=some l0) (hr:q5 C s.heap Y vs as)
  (bu:k=true->env.code= .ref C.c/\env.qual++("<lambda>":Str)=C.lq):
  KP C s { s with heap:=h',toks:=tk }/\FS C n k A env (jB env++Y) [] l0 { s with heap:=h',toks:=tk }/\(∀a∈jB env,s.heap.get? a=none)/\(∀p∈env.cells,p.2∈jB env):=by
 have kp:KP C s { s with heap:=h',toks:=tk }:=KP.of ht hk
 have yZ:env.locals=L:=by rw[he];rfl
 have xV:env.cells=cellsFrom (L+1) sc.names []:=by rw[he];rfl
 have qJ:env.scope=sc:=by rw[he];rfl
 have wf:=gN sc.names (s.heap.push (jc [] 0)) [] (fun p hp=>by cases (hp)) List.Pairwise.nil
 rw[Heap.size_push,<-hL] at wf
 have dF:∀q∈env.cells,L+1<=q.2:=fun q hq=>by
  rcases wf.2.2 q (xV▸hq) with h|h
  ·cases (h)
  ·exact h
 have sM:∀q∈env.cells,q.2∈jB env:=fun q hq=>qO _ (qG.mpr ⟨List.mem_map_of_mem (f:=(·.2)) hq,by rw[yZ];exact decide_eq_true (dF q hq)⟩)
 have fH:∀a∈jB env,s.heap.get? a=none:=fun a ha=>by
  have dF:L<=a:=by
   rcases j0.mp ha with e|ha
   ·rw[e,yZ];exact Nat.le_refl _
   ·have:=of_decide_eq_true (qG.mp ha).2
    rw[yZ] at this
    exact Nat.le_of_lt this
  exact none_of fun⟨o,e⟩=>by
   have:=Heap.lt_size e
   rw[<-hL] at this
   exact absurd dF (Nat.not_le.mpr this)
 have sS:∀a∈jB env,∃o,h'.get? a=some o:=fun a ha=>by
  rcases j0.mp ha with e|ha
  ·refine ue fm.ns fun m o es ep ho _=> ?_
   exact⟨o,e▸ho⟩
  ·refine jH (vK.mp (qG.mp ha).1) ?_;rintro q hq rfl
   refine qU (fm.cl q hq) fun v o ho _=> ?_
   exact⟨o,ho⟩
 have hWP:∀a∈jB env,a≠C.P:=fun a ha e=>by
  obtain⟨o,ho⟩:=hYs C.P hP
  rw[<-e,fH a ha] at ho;cases (ho)
 have sZ:q5 C h' (jB env++Y) vs as:=q5.moreL (J:=jB env) kp hP fH (fun b hb=>jq.mp hb) hr
 refine⟨kp,⟨⟨bs,ha,⟨by rw[qJ];exact kind,by rw[he];rfl,by rw[he];rfl,fun x hx=> ?_,bu⟩,g.kp bs kp,jz _ (jz _ hP),fun a ha=> ?_,fun a ha=> ?_,fm,fun p hp=>jz _ (xn _ (sM p hp)),fun x d hx=> ?_⟩,
  jz _ hP,fun p hp=>xn _ (sM p hp),Own.fresh g.tab hWP hk fH sS,fun a ha=>xn _ ha,fun p hp=>(by cases (hp)),List.Pairwise.nil,fun x c hx hc=>sM _ (mem_of_lookup hc),fun x ds hx=> ?_⟩,fH,sM⟩
 ·rw[xV]
  refine xA _ _ _ _ (.inl ?_)
  rcases hx with hx|hx
  ·rw[<-qJ];exact hx
  ·have hx':env.scope.names.lookup x=some .free:=hx
   rw[qJ] at hx'
   exact absurd hx' (dh x)
 ·rcases jq.mp (show a∈jB env++Y from ha) with h|h
  ·exact none_of fun⟨o,ho⟩=>by
    have:=fH a h
    rw[g.keep _ o ho] at this;cases (this)
  ·exact hY a h
 ·rcases jq.mp (show a∈jB env++Y from ha) with h|h
  ·exact sS a h
  ·obtain⟨o,ho⟩:=hYs a h
   exact⟨o,hk _ _ ho⟩
 ·unfold jV at hx
  rw[xB hb x] at hx
  generalize hz:(names.zip as).lookup x=x0;induction x0 using cO with
  |none=>rw[hz] at hx;cases (hx)
  |some d'=>
   rw[hz] at hx;cases (hx)
   refine jH (pE sZ x d hz) fun v iG rv=> ?_
   exact⟨v,hv x v (by rw[jAf kL];exact iG),rv⟩
 ·rw[xB hb x] at hx
  generalize hz:(names.zip as).lookup x=x0;induction x0 using cO with
  |none=>rw[hz] at hx;cases (hx)
  |some d'=>rw[hz] at hx;cases (hx)
structure OkFn(f:Fn):Prop where
 plain:zq f.params=true
 co:f.scope.isCoroutine=false
 gen:f.scope.isGenerator=false
 kind:f.scope.kind= .function
 par:∀x∈f.names,f.scope.names.lookup x=some .local\/f.scope.names.lookup x=some .cell
 free:∀x,f.scope.names.lookup x≠some .free
theorem vr{f:Fn}(h:uc f=true):OkFn f:=by
 unfold uc at h
 simp only[Bool.and_eq_true,Bool.not_eq_true',decide_eq_true_eq,List.all_eq_true] at h
 obtain⟨⟨⟨⟨⟨h1,h2⟩,h3⟩,h4⟩,h5⟩,h6⟩:=h
 exact⟨h1,h2,h3,h4,h5,fun x hx=>h6 _ (qE hx) rfl⟩
structure yA(n:Nat)(A:Around):Prop where
 handled:A.handled=none
 depth:A.depth+1+3 * n<900
 units:A.units+4+40 * n<9000
theorem yA.deeper(h:yA n A):yW n (A.deeper env):=⟨h.handled,h.depth,by have:=h.units;refine(?_:A.units+3+40 * n<9000);(refine Nat.lt_of_le_of_lt ?_ (by assumption);simp+arith)⟩
theorem yW.room(h:yW (n+1) A):yA n A:=⟨h.handled,by have:=h.depth;(refine Nat.lt_of_le_of_lt ?_ (by assumption);simp+arith),by have:=h.units;(refine Nat.lt_of_le_of_lt ?_ (by assumption);simp+arith)⟩
theorem za{fn:Fn}{a:Addr}{qual:Str}{code:Value}{as:List D}{vs:List Value}{l0:jQ}{B:Around}{Q:Env->Shared->Prop}(ok:OkFn fn)(bs:Base C)(g:Gr C s)(hP:C.P∈Y)(hY:∀a∈Y,C.g0.get? a=none)(hYs:∀a∈Y,∃o,s.heap.get? a=some o)
  (hA:∀env,yW n (A.deeper env)) (hb:y5 fn.names as=some l0) (hr:q5 C s.heap Y vs as) (bu:k=true->code= .ref C.c/\qual++("<lambda>":Str)=C.lq)
  (q:∀env s',KP C s s'->FS C n k (A.deeper env) env (jB env++Y) [] l0 s'->(∀a∈jB env,s.heap.get? a=none)->(∀p∈env.cells,p.2∈jB env)->env.scope=fn.scope->env.frame=some env.locals->Q env s'):
  wpAny C.M B (newFunctionEnv fn.scope mainGlobals [] (fn.names.zip vs) qual (some a) code none builtinsNs) Q NE s:=by
 have hlen:fn.names.length=vs.length:=(wA hb).trans hr.length.symm
 have kL:((fn.names.zip vs).map (·.1)).Nodup:=by
  rw[List.map_fst_zip (by lia)]
  have h1:=ok.plain
  unfold zq at h1
  simp only[Bool.and_eq_true,decide_eq_true_eq] at h1
  exact h1.2
 refine vE ok.kind (fun x hx=>ok.par _ (List.of_mem_zip hx).1) (fun x hx=>absurd hx (ok.free x)) (fun p hp=>by cases hp) List.Pairwise.nil fun env h' tk he ht hk fm hv=> ?_
 refine ug (jJs (A:=A.deeper env) bs g hP hY hYs (hA env) ok.kind ok.free kL rfl he ht hk fm hv hb hr (fun hk=>by rw[he];exact bu hk)) fun kp fs hn hcn=> ?_
 exact q env _ kp fs hn hcn (by rw[he];rfl) (by rw[he];rfl)
theorem vB(S:SS C n r){f:Str}{fn:Fn}{a:Addr}{as:List D}{vs:List Value}{d:D}{l0:jQ}{Q:q4}(hf:C.fns.lookup f=some fn)(hm:C.mg f=some (.ref a))(bs:Base C)(g:Gr C s)(hP:C.P∈Y)(hY:∀a∈Y,C.g0.get? a=none)(hYs:∀a∈Y,∃o,s.heap.get? a=some o)
  (hA:yA n A) (hb:y5 fn.names as=some l0) (hs:qV r false fn.scope l0 fn.body=some (.ret d,l')) (hr:q5 C s.heap Y vs as) (q:∀v s',KP C s s'->RD C s'.heap Y v d->Q v s'):
  wpAny C.M A (call (.ref a) vs) Q E s:=by
 have ok:=vr (bs.okf f fn hf)
 refine fR (bs.fn f fn hf) fun a' o pm code doc rX ho hd hc=> ?_
 rw[hm] at rX;cases rX
 have tj:=hA.depth
 have hlen:fn.names.length=vs.length:=(wA hb).trans hr.length.symm
 refine wpAny_call (codeAny_call_function (fd:=docDef f fn.params fn.body fn.scope pm code doc) (body:=fn.body) (by have:recursionLimit=1000:=rfl;lia) (g.keep _ _ ho) hd ok.co ok.gen rfl (hc.keeps g.keep) ?_)
 rw[qc ok.plain rfl (by refine(?_:fn.params.args.length=vs.length);simpa [Fn.names] using hlen)]
 refine wpAny_pure (ne ?_)
 refine za (k:=false) (n:=n) (A:=A) ok bs g hP hY hYs (fun env=>hA.deeper) hb hr (fun h=>by exact zf h) fun env s1 kp fs hn _ qJ _=>⟨bs.nolimit.keeps (g.kp bs kp).keep,codeAny_func ?_⟩
 refine xY S fn.body [] l0 l' (.ret d) s1 _ _ fs (by rw[qJ];exact hs) fun v s2 kw rd=> ?_
 have yf:KP C s s2:=KP.of_kw (kp.kw.transNew kw fun b hb=> .inr (hn b (by exact hb)))
 exact q v s2 yf (Mine.R.mono (jh fun a ha=>jz _ ha) rd)
theorem jBz{I l:Addr}{i:Nat}{items:Array Value}{x:Value}{Q:q4}(hit:s.heap.IsListIter I l i)(hl:s.heap.IsList l items)(hx:items[i]? =some x)
  (q:∀h',h'.IsListIter I l (i+1)->Heap.SameBut I s.heap h'->Q x { s with heap:=h' }):wpAny C.M A (call (.builtin "next") [.ref I]) Q E s:=by
 refine xQ (id hit) fun o ho hc hd=> ?_
 obtain⟨ol,nU,_,nl,aX⟩:=hl
 refine call_function_entry (by decide+kernel) (by decide+kernel) kdk_entry_next (kdk_args_next _) ?_
 unfold Builtin.«next»
 refine wpAny_bind (m:=someArgs "next" 1 2 _) (wpAny_of_eq (a:=[Value.ref I]) (by first|rfl|kernel_rfl!) ?_)
 dsimp only
 refine wpAny_bind (wpAny_specialOf (name:=Str.ofString "__next__") hit.typeIs slot_listiter_next.lookup ?_)
 refine wpAny_ite_split (fun sQ=>absurd sQ kD) (fun _=> ?_)
 refine wpAny_bind (wpAny_callSpecial?_slot (name:=Str.ofString "__next__") hit.typeIs slot_listiter_next
  (wpAny_call_entry slot_listiter_next hit.typeIs entry_listiter_next ?_ (args_listiter_next _)))
 refine(?_:wpAny _ _ (field (.ref I) 0 >>=_) _ _ s)
 refine wpAny_bind (wpAny_field ho hd (x:= .ref l) rfl ?_)
 refine(?_:wpAny _ _ (if (Value.ref l==Value.none)=true then _ else _) _ _ s)
 rw[if_neg (show¬((Value.ref l==Value.none)=true) from Bool.false_ne_true)]
 refine(?_:wpAny _ _ (field (.ref I) 1 >>=_) _ _ s)
 refine wpAny_bind (wpAny_field ho hd (x:= .int i 0) rfl ?_)
 refine(?_:wpAny _ _ (seqItems? (.ref l) >>=_) _ _ s)
 refine wpAny_bind (wpAny_seqItems nU aX ?_)
 simp only[Int.toNat_natCast,hx]
 refine wpAny_bind (wpAny_setField ho hd (by simp) (wpAny_pure ⟨x,rfl,wpAny_pure ⟨_,rfl,q _ ?_ (Heap.SameBut.update ..)⟩⟩))
 exact vM _ (Heap.get?_update_self _ ho (Obj.isFreed_of_fields (Obj.data_mapFields hd _))) ((Obj.cls_mapFields ..).trans hc) (by
  rw[Obj.data_mapFields hd];simp[rawInt])
theorem jJd{v:Value}{ai:Addr}{oi:Obj}{Q:q4}(hi:s.heap.get? ai=some oi)(hc:oi.cls≠.type "tuple")(hv:(∃x o,v= .ref x/\x≠ai/\s.heap.get? x=some o)\/∃i t,v= .int i t)(q:Q (.bool false) s):
  wpAny C.M A (compareOp .Is v (.ref ai)) Q E s:=by
 rcases hv with ⟨x,o,rfl,jv,ho⟩|⟨i,t,rfl⟩
 ·refine(?_:wpAny _ _ (do return .bool (<-isSame (.ref x) (.ref ai))) Q E s)
  exact wpAny_bind (wpAny_isSame_ref_other' jv ho hi hc (wpAny_pure q))
 ·exact wpAny_is_other (by rfl) (by intro h;cases h) q
theorem wp_eq{α:Type}{M:Model}{m m':Sem α}{Q:α->Shared->Prop}(h:m=m')(w:wpAny M A m' Q E s):wpAny M A m Q E s:=h▸w
theorem jDl{fd:FuncData}{p1 p2 p3:Pos}{es:List Expr}{dt:Addr}{tI:Obj}{nt:Nat}{u v dv:Value}{Q:mL->Shared->Prop}(hp:fd.params=bb p1 p2 p3 es)(hd:fd.defaults= .ref dt)(ho:s.heap.get? dt=some tI)(u9:tI.data= .seq #[dv] nt)
  (q:Q [("function",u),("sequence",v),("initial",dv)] s):wpAny C.M A (bindArgs fd ⟨[u,v],[]⟩) Q E s:=by
 obtain⟨nm,qn,ps,body,sc,gl,cl,df⟩:=fd
 subst hp;subst hd
 refine wpAny_bind (wpAny_pure (wpAny_bind (wpAny_seqItems ho u9 ?_)))
 exact(wp_eq (m':=(pure [(("function":Str),u),(("sequence":Str),v),(("initial":Str),dv)]:Sem mL)) kR (wpAny_pure q))
theorem jF8{fd:FuncData}{p1 p2 p3:Pos}{es:List Expr}{dt:Addr}{tI:Obj}{nt:Nat}{u v x dv:Value}{Q:mL->Shared->Prop}(hp:fd.params=bb p1 p2 p3 es)(hd:fd.defaults= .ref dt)(ho:s.heap.get? dt=some tI)(u9:tI.data= .seq #[dv] nt)
  (q:Q [("function",u),("sequence",v),("initial",x)] s):wpAny C.M A (bindArgs fd ⟨[u,v,x],[]⟩) Q E s:=by
 obtain⟨nm,qn,ps,body,sc,gl,cl,df⟩:=fd
 subst hp;subst hd
 refine wpAny_bind (wpAny_pure (wpAny_bind (wpAny_seqItems ho u9 ?_)))
 exact(wp_eq (m':=(pure [(("function":Str),u),(("sequence":Str),v),(("initial":Str),x)]:Sem mL)) kR (wpAny_pure q))
theorem FS.out(fs:FS C n k A env Y OL l s)(x:KW C Z s s')(hZ:∀b,Z b->b∈Y)(hl:¬Z env.locals)(hc:∀p∈env.cells,¬Z p.2):FS C n k A env Y OL l s':=by
 have sR:∀b,Z b->b∈q6 OL++Y:=fun b hb=>jz _ (hZ b hb)
 refine⟨fs.pre.kw x sR hl hc,fs.hP,fs.cY,fs.own.kw fs.pre.gr.tab x,fs.wY,fs.nY,fs.ap,fs.cw,fun y ds hy=> ?_⟩
 refine yz (fs.lst y ds hy) fun a vs m h1 h2 h3 h4=> ?_
 have dH:a≠C.P:=fs.own.ne a (xn _ (List.mem_map_of_mem (f:=(·.2)) h1))
 exact vL a vs m h1 (h2.kw fs.pre.gr.tab x hl hc) (x.heap dH (fun hz=>fs.nY _ h1 (hZ a hz)) h3) (q5.kw x fs.pre.hP sR h4)
theorem FS.out'(fs:FS C n k A env Y OL l s)(x:KW C Z s s')(hZ:∀b,Z b->b∈Y)(hl:Z env.locals->∀m,s.heap.Ns env.locals m->s'.heap.Ns env.locals m)(hc:∀p∈env.cells,¬Z p.2):FS C n k A env Y OL l s':=by
 have sR:∀b,Z b->b∈q6 OL++Y:=fun b hb=>jz _ (hZ b hb)
 have t:=fs.pre.gr.tab
 have hns:∀m,s.heap.Ns env.locals m->s'.heap.Ns env.locals m:=fun m hm=>by
  by_cases hz:Z env.locals
  ·exact hl hz m hm
  ·exact hm.at fun o e=>x.heap (jg t hm) hz e
 have hva:∀y v,jt env s.heap y v->jt env s'.heap y v:=fun y v a=>by
  rcases a with ⟨hk,m,hn,hm⟩|⟨hk,c,xq,hv⟩
  ·exact .inl ⟨hk,m,hns m hn,hm⟩
  ·refine jH (id hv) fun o ho hd=> ?_
   exact .inr ⟨hk,c,xq,o,x.heap (qN t hv) (hc _ (mem_of_lookup xq)) ho,hd⟩
 refine⟨⟨fs.pre.bs,fs.pre.a,fs.pre.eo,fs.pre.gr.kw fs.pre.bs x fun b hb=>fs.pre.hY b (sR b hb),fs.pre.hP,fs.pre.hY,fun a ha=>x.exs t (fs.pre.hYs a ha),?_,fs.pre.hc,fun y d hy=> ?_⟩,fs.hP,fs.cY,fs.own.kw t x,fs.wY,fs.nY,fs.ap,fs.cw,fun y ds hy=> ?_⟩
 ·obtain⟨⟨m,hn⟩,xq,ha⟩:=fs.pre.fm
  refine⟨⟨m,hns m hn⟩,fun p hp=> ?_,ha⟩
  obtain⟨v,hv⟩:=xq p hp
  refine jH (id hv) fun o ho hd=> ?_
  exact oM v o (x.heap (qN t hv) (hc p hp) ho) hd
 ·refine jH (fs.pre.loc y d hy) fun v a r=> ?_
  exact⟨v,hva y v a,RD.kw x fs.pre.hP sR r⟩
 ·refine yz (fs.lst y ds hy) fun a vs m h1 h2 h3 h4=> ?_
  have dH:a≠C.P:=fs.own.ne a (xn _ (List.mem_map_of_mem (f:=(·.2)) h1))
  exact vL a vs m h1 (hva y _ h2) (x.heap dH (fun hz=>fs.nY _ h1 (hZ a hz)) h3) (q5.kw x fs.pre.hP sR h4)
theorem FS.var(fs:FS C n k A env Y OL l s){x:Str}{d:D}(h:l x=some (.val d)):∃v,jt env s.heap x v/\RD C s.heap (q6 OL++Y) v d:=fs.pre.loc x d (by unfold jV;rw[h])
theorem R.opq_inv{H:HV}{v u:Value}(h:R prog w H v (.opq u)):v=u:=h.inv
structure dk(C:Cx)(n:Nat)(A:Around)(af:Addr)(I:List Addr->Nat->Value->Shared->Prop)(its:List D)(ZF:Addr->Prop)(s0:Shared)(Y0:List Addr):Prop where
 zf:∀b,ZF b->b∈Y0
 fobj:∀Y j v s,I Y j v s->∃o fd,s.heap.get? af=some o/\o.data= .func fd
 call:∀(env:Env) Y j va vd d s (Q:q4),yW n (A.deeper env)->Gr C s->C.P∈Y->(∀a∈Y,C.g0.get? a=none)->(∀a∈Y,∃o,s.heap.get? a=some o)->(∀a∈Y0,a∈Y)->I Y j va s->its[j]? =some d->RD C s.heap Y vd d->env.scope.kind= .function->env.frame=some env.locals->env.locals∈Y->s0.heap.get? env.locals=none->(∃m,s.heap.Ns env.locals m)->
  (∀v' s',KW C (fun b=>ZF b\/b=env.locals) s s'->(∀m,s.heap.Ns env.locals m->s'.heap.Ns env.locals m)->I Y (j+1) v' s'->Q v' s')->wpAny C.M (A.deeper env) (call (.ref af) [va,vd]) Q NE s
 kw:∀Y j v s s' (Z:Addr->Prop),I Y j v s->KW C Z s s'->(∀b,Z b->b∈Y/\s0.heap.get? b=none)->C.P∈Y->jl C s.heap->I Y j v s'
 more:∀(Y Y' J:List Addr) j v s s',I Y j v s->KP C s s'->(∀a∈J,s.heap.get? a=none)->(∀a∈J,∃o,s'.heap.get? a=some o)->(∀a∈Y',a∈J\/a∈Y)->(∀a∈Y,a∈Y')->C.P∈Y->I Y' j v s'
 last:∀(Y J:List Addr) j v s s',I (J++Y) j v s->KJ C J s s'->(∀a∈J,s0.heap.get? a=none/\a∉Y)->(∀a∈Y0,a∈Y)->C.P∈Y->I Y j v s'
 sub:∀(Y Y':List Addr) j v s,I Y j v s->(∀a∈Y',a∈Y)->(∀a∈Y0,a∈Y')->I Y' j v s
theorem xw{B:Around}{x:Str}{d:D}{p:Pos}{Q:q4}(fs:FS C n k A env Y OL l s)(h:l x=some (.val d))(h1:(x==("__debug__":Str))=false)(h2:(x==("__classdict__":Str))=false)(q:∀v,RD C s.heap (q6 OL++Y) v d->Q v s):wpAny C.M B (eval (.Name x p) env) Q NE s:=by
 refine jH (fs.var h) fun v hv rv=> ?_
 exact pW fs.pre hv h1 h2 (q v rv)
theorem tL{B:Around}{x:Str}{u:Value}{p:Pos}{Q:q4}(fs:FS C n k A env Y OL l s)(h:l x=some (.val (.opq u)))(h1:(x==("__debug__":Str))=false)(h2:(x==("__classdict__":Str))=false)(q:Q u s):wpAny C.M B (eval (.Name x p) env) Q NE s:=
 xw fs h h1 h2 fun v rv=>(Mine.R.opq_inv rv).symm▸q
theorem zy{x:Str}{p pos:Pos}{e:Expr}{Q:vo}(iK:swapsWith e (some (.Name x p)) pos.line env=pure false)
  (h:wpAny C.M A (eval e env) (fun v s1=>∃Y OL l d,FS C n k A env Y OL l s1/\(env.kindOf x=some .local\/env.kindOf x=some .cell)/\RD C s1.heap (q6 OL++Y) v d/\∀s2,KW C (ZO OL env) s1 s2->FS C n k A env Y OL (jA l x (.val d)) s2->Q .next s2) NE s):
  wpAny C.M A (exec (.Assign [.Name x p] e pos) env) Q E s:=by
 refine ne (wpAny_Assign_Name (E:=NE) (wpAny_mono h (fun v s1 h1=> ?_) fun _ _ x=>x) iK)
 refine ud h1 fun Y OL l d fs hk rv q=> ?_;clear h1
 exact fs.assign hk rv q
noncomputable def localsOf(m:xO):jQ:=fun x=>(m.lookup x).map .val
inductive cf (C:Cx) (n:Nat) (vN:Around) (env:Env) (Yl:List Addr) (I0 af:Addr) (I:List Addr->Nat->Value->Shared->Prop) (its:List D) (ZT:Addr->Prop) (pe:Pos) (s:Shared) (m:Nat) (s1:Shared):Prop
 |mk:∀j v l',j+m=its.length->FS C n false vN env ([I0]++Yl) [] l' s1->l' "function"=some (.val (.opq (.ref af)))->l' "value"=some (.val (.opq v))->I ([I0]++Yl) j v s1->SrcR C vN (.Name "element" pe) ([I0]++Yl) I0 [I0] (its.drop j) s1.heap->KW C ZT s s1->cf C n vN env Yl I0 af I its ZT pe s m s1
theorem jEu{af I0:Addr}{I:List Addr->Nat->Value->Shared->Prop}{its:List D}{ZF:Addr->Prop}{s0:Shared}{Y0 Yl:List Addr}{fn:Fn}(fc:dk C n A af I its ZF s0 Y0){vN:Around}{p:Nat->Pos}{R:Result->Shared->Prop}
  (hA:vN=A.deeper env) (kM:env.frame=some env.locals) (qJ:env.scope=fn.scope) (rf:dj fn) (fs:FS C n false vN env ([I0]++Yl) [] l s) (rZ:∀a∈Y0,a∈Yl) (hIn:I0∉Yl) (hP:C.P∈Yl) (hc:∀p∈env.cells,p.2∈Yl) (wY:∀a∈jB env,a∈Yl) (oI:Own C [I0] s.heap)
  (yY:∀b,(b∈[I0]\/b∈jB env)->s0.heap.get? b=none) (sA:∀b,ZF b->b≠I0/\b≠env.locals/\(∀p∈env.cells,p.2≠b))
  (lf:l "function"=some (.val (.opq (.ref af)))) (lv:∃v,l "value"=some (.val (.opq v))/\I ([I0]++Yl) 0 v s) (src:SrcR C vN (.Name "element" (p 18)) ([I0]++Yl) I0 [I0] its s.heap)
  (q:∀v s1 s2 l',KW C (fun b=>b∈[I0]\/b∈jB env\/ZF b) s s1->KJ C [I0] s1 s2->FS C n false vN env Yl [] l' s2->l' "value"=some (.val (.opq v))->I Yl its.length v s2->R (.ok .next) s2):
  codeAny C.M vN (.forLoop (.Name "element" (p 18)) (.ref I0) [rB p] [] env) R s:=by
 refine jH lv fun v0 lv0 aw=> ?_;clear lv
 refine codeAny_forLoop_any (cf C n vN env Yl I0 af I its (fun b=>b∈[I0]\/b∈jB env\/ZF b) (p 18) s) ?_ its.length ⟨0,v0,l,by simp,fs,lf,lv0,aw,by exact src,KW.refl s⟩
 intro m s1 y0
 obtain⟨j,v,l1,hm,qP,lf1,lv1,eA,kQ,gR⟩:=y0
 have t0:=fs.pre.gr.tab
 have tW:I0≠C.P:=oI.ne I0 x9
 have rb:I0≠env.locals:=fun e=>hIn (e▸wY _ jk)
 have iy:∀p∈env.cells,¬p.2=I0:=fun p hp e=>hIn (e▸hc p hp)
 have tF:∀b∈[I0],b∈[I0]++Yl:=fun b hb=>xn _ hb
 have tJ:Own C [I0] s1.heap:=oI.kw t0 gR
 have kE:∀x∈(["function","sequence","initial","it","value","element"]:List Str),env.kindOf x=some .local:=fun x hx=>by
  refine(?_:env.scope.names.lookup x=_)
  rw[qJ];exact rf.loc x hx
 have zI:∀b,b∈jB env->b∈[I0]++Yl/\s0.heap.get? b=none:=fun b hb=>⟨jz _ (wY b hb),yY b (.inr hb)⟩
 have uy:∀b,b=I0->b∈[I0]++Yl/\s0.heap.get? b=none:=fun b hb=>⟨by simp[hb],yY b (.inl (by simp[hb]))⟩
 generalize hd:its.drop j=x0;induction x0 using cL with
 |nil=>
  rw[hd] at kQ
  refine ne (kQ.done fun h' tk ht hk=> ?_)
  have kj:KJ C [I0] s1 { s1 with heap:=h',toks:=tk }:=KJ.of ht tJ.ne tJ.code hk
  have hj:j=its.length:=by
   have:=List.drop_eq_nil_iff.mp hd
   lia
  have hInJ:∀a∈[I0],a∉Yl:=fun a ha=>by replace ha:=j4.mp ha;subst ha;exact hIn
  refine wpAny_execs_nil (q v s1 _ l1 gR kj (qP.lastJ kj hInJ hP hc wY) lv1 ?_)
  rw[<-hj]
  exact fc.last Yl [I0] j v s1 _ eA kj (fun a ha=>⟨yY a (.inl ha),hInJ a ha⟩) rZ hP
 |cons d ds=>
  rw[hd] at kQ
  have vF:j<its.length:=by
   rcases Nat.lt_or_ge j its.length with h|h
   ·exact h
   ·rw[List.drop_of_length_le h] at hd;cases hd
  have lX:its[j]? =some d:=by
   have:=List.drop_eq_getElem_cons vF
   rw[hd] at this
   injection this with h1 h2
   rw[h1];simp[vF]
  have wq:its.drop (j+1)=ds:=by
   have:=List.drop_eq_getElem_cons vF
   rw[hd] at this
   injection this with h1 h2
   exact h2.symm
  refine ne (wpAny_mono (kQ.next tF qP.pre.hYs (Q:=fun v s2=>wpAny C.M vN (assign (.Name "element" (p 18)) env v) (fun _ s₂=>wpAny C.M vN (execs [rB p] env) (fun ff s₃=>match ff with
      | .next| .cont=>∃m',m'<m/\cf C n vN env Yl I0 af I its (fun b=>b∈[I0]\/b∈jB env\/ZF b) (p 18) s m' s₃
      | .brk=>R (.ok .next) s₃
      | .ret v=>R (.ok (.ret v)) s₃) (notedBy C.M vN env fun e s'=>R (.error e) s') s₂) (notedBy C.M vN env fun e s'=>R (.error e) s') s2) ?_) ?_ fun _ _ x=>x)
  ·intro e h' tk ht hk aR td he
   have z5:KW C (·=I0) s1 { s1 with heap:=h',toks:=tk }:=KW.one ht rfl tW (tJ.code I0 x9) (fun b o hb e=>hk b o (by simpa using hb) e) (aR I0 x9)
   have xa:=qP.out z5 (fun b hb=>(uy b hb).1) (fun e=>rb e.symm) iy
   have hO:=fc.kw _ _ _ _ _ _ eA z5 uy qP.hP qP.pre.gr.tab
   refine ne (wpAny_assign_Name (xa.assign (.inl (kE "element" kD)) he fun s3 vO yB=> ?_))
   have wI:KW C (·∈jB env) { s1 with heap:=h',toks:=tk } s3:=vO.mono fun b hb=>by exact hb
   have av:=fc.kw _ _ _ _ _ _ hO wI zI qP.hP xa.pre.gr.tab
   have tc:SrcR C vN (.Name "element" (p 18)) ([I0]++Yl) I0 [I0] ds s3.heap:=td.more (Zs:=[]) (fun b hb=>by cases hb) (fun b hb=> .inr hb) fun b o hb e=>by
    refine wI.heap (fun e'=> ?_) (fun hz=> ?_) e
    ·rcases hb with hb|hb
     ·exact tJ.ne b hb e'
     ·exact hb (e'▸qP.hP)
    ·rcases hb with hb|hb
     ·replace hb:=j4.mp hb;subst hb;exact hIn (wY _ hz)
     ·exact hb (zI b hz).1
   have cu:jA l1 "element" (.val d) "function"=some (.val (.opq (.ref af))):=by
    unfold jA;rw[if_neg kD];exact lf1
   have lv3:jA l1 "element" (.val d) "value"=some (.val (.opq v)):=by
    unfold jA;rw[if_neg kD];exact lv1
   have ej:jA l1 "element" (.val d) "element"=some (.val d):=by
    unfold jA;rw[if_pos rfl]
   have oK:KW C (fun b=>b∈[I0]\/b∈jB env\/ZF b) s s3:=gR.trans ((z5.mono fun b hb=>Or.inl (by simp[hb])).trans (wI.mono fun b hb=>Or.inr (Or.inl hb)))
   refine wpAny_execs_cons (zy (n:=n) (k:=false) (by rfl) ?_)
   refine Call_Name rfl (tL yB cu kD kD ?_)
   refine qU (fc.fobj _ _ _ _ av) fun of fd hof hofd=> ?_
   refine callWith_function (o:=of) (fd:=fd) (evalArgs_plain (spliced_cons (xw yB lv3 kD kD fun u ru=>spliced_cons (xw yB ej kD kD fun e' re=>spliced_nil ⟨⟨hof,hofd⟩,?_⟩))))
   have hu:u=v:=Mine.R.opq_inv ru
   rw[hu]
   have bV:yW n (A.deeper env):=hA▸fs.pre.a
   subst hA
   refine fc.call env ([I0]++Yl) j v e' d s3 _ bV yB.pre.gr yB.hP (fun a ha=>yB.pre.hY a (by exact ha)) (fun a ha=>yB.pre.hYs a (by exact ha)) (fun a ha=>jz _ (rZ a ha)) av lX re yB.pre.eo.kind kM (zI env.locals jk).1 (zI env.locals jk).2 yB.pre.fm.ns fun v' s4 yx th sV=> ?_
   have hzY:∀b,ZF b\/b=env.locals->b∈[I0]++Yl:=fun b hb=>by
    rcases hb with hb|hb
    ·exact jz _ (rZ b (fc.zf b hb))
    ·exact hb▸(zI env.locals jk).1
   have bH:∀p∈env.cells,p.2≠env.locals:=fun p hp e=>by
    refine oN yB.pre.fm.ns fun m o es ep ho yP _=> ?_
    refine qU (yB.pre.fm.cl p hp) fun v o' ho' hd''=> ?_
    rw[e,ho] at ho';replace ho':=j6 ho';subst ho';rw[yP] at hd'';cases hd''
   have yw:=yB.out' yx hzY (fun _=>th) fun p hp hz=>by
    rcases hz with hz|hz
    ·exact(sA _ hz).2.2 p hp rfl
    ·exact bH p hp hz
   refine ro ([I0]++Yl) [] _ (.opq v') yw (.inl (kE "value" kD)) (.opq v') (fun s5 dq kW=> ?_)
   have kT:KW C (·∈jB env) s4 s5:=dq.mono fun b hb=>by exact hb
   have hK:=fc.kw _ _ _ _ _ _ sV kT zI qP.hP yw.pre.gr.tab
   have src5:SrcR C (A.deeper env) (.Name "element" (p 18)) ([I0]++Yl) I0 [I0] ds s5.heap:=tc.more (Zs:=[]) (fun b hb=>by cases hb) (fun b hb=> .inr hb) fun b o hb e=>by
    have bM:b≠C.P:=fun e'=>by
     rcases hb with hb|hb
     ·exact tJ.ne b hb e'
     ·exact hb (e'▸qP.hP)
    refine kT.heap bM (fun hz=> ?_) (yx.heap bM (fun hz=> ?_) e)
    ·rcases hb with hb|hb
     ·replace hb:=j4.mp hb;subst hb;exact hIn (wY _ hz)
     ·exact hb (zI b hz).1
    ·rcases hb with hb|hb
     ·replace hb:=j4.mp hb
      rcases hz with hz|hz
      ·exact(sA b hz).1 hb
      ·exact rb (hb.symm.trans hz)
     ·exact hb (hzY b hz)
   refine wpAny_execs_nil ⟨m - 1,by lia,j+1,v',_,by lia,kW,?_,?_,hK,wq▸src5,oK.trans ((yx.mono fun b hb=>hb.elim (fun hb=>Or.inr (Or.inr hb)) fun hb=>Or.inr (Or.inl (hb▸jk))).trans (kT.mono fun b hb=>Or.inr (Or.inl hb)))⟩
   ·unfold jA;rw[if_neg kD];exact cu
   ·unfold jA;rw[if_pos rfl]
  ·intro rr s2 y0
   refine jH y0 ?_;clear y0;rintro v rfl hh
   exact ne hh
theorem jB0{ad:Addr}{items:Array Value}{Q:q4}(hl:s.heap.IsList ad items)
  (q:Q (.ref s.heap.objs.size) { s with heap:=s.heap.push { cls:= .type "list_iterator",data:= .fields #[.ref ad,.int 0 0] } }):wpAny C.M A (call (.builtin "iter") [.ref ad]) Q E s:=by
 refine call_function_entry (by decide+kernel) (by decide+kernel) kdk_entry_iter (kdk_args_iter _) ?_
 unfold Builtin.«iter»
 refine wpAny_bind (m:=someArgs "iter" 1 2 _) (wpAny_of_eq (a:=[.ref ad]) (by first|rfl|kernel_rfl!) ?_)
 refine(?_:wpAny _ _ (pyIter (.ref ad) >>=_) _ _ _)
 exact wpAny_bind (wpAny_pyIter_list hl (wpAny_pure ⟨_,rfl,q⟩))
structure RMid(C:Cx)(n:Nat)(vN:Around)(env:Env)(Yl:List Addr)(I0 af ad:Addr)(I:List Addr->Nat->Value->Shared->Prop)(vs:List Value)(ds its:List D)(v0:Value)(ZT:Addr->Prop)(i0:Nat)(l5:jQ)(s s5:Shared):Prop where
 fs:FS C n false vN env ([I0]++Yl) [] l5 s5
 lf:l5 "function"=some (.val (.opq (.ref af)))
 li:l5 "it"=some (.val (.opq (.ref I0)))
 lv:l5 "value"=some (.val (.opq v0))
 inv:I ([I0]++Yl) 0 v0 s5
 it:s5.heap.IsListIter I0 ad i0
 list:s5.heap.IsList ad vs.toArray
 rs:q5 C s5.heap ([I0]++Yl) vs ds
 its:ds.drop i0=its
 i0:i0<=ds.length
 kw:KW C ZT s s5
theorem jEt{af I0 ad:Addr}{I:List Addr->Nat->Value->Shared->Prop}{its ds:List D}{ZF:Addr->Prop}{s0:Shared}{Y0 Yl:List Addr}{fn:Fn}(fc:dk C n A af I its ZF s0 Y0){p:Nat->Pos}{i0:Nat}{l5:jQ}{s5:Shared}{vs:List Value}{v0:Value}{Q:vo}
  (hh:A.handled=none) (kM:env.frame=some env.locals) (qJ:env.scope=fn.scope) (rf:dj fn) (rZ:∀a∈Y0,a∈Yl) (hIn:I0∉Yl) (hP:C.P∈Yl) (hc:∀p∈env.cells,p.2∈Yl) (wY:∀a∈jB env,a∈Yl) (oI:Own C [I0] s5.heap)
  (yY:∀b,(b∈[I0]\/b∈jB env)->s0.heap.get? b=none) (sA:∀b,ZF b->b≠I0/\b≠env.locals/\(∀p∈env.cells,p.2≠b)) (tl:ad∉[I0]++Yl)
  (m:RMid C n (A.deeper env) env Yl I0 af ad I vs ds its v0 (fun b=>b∈[I0]\/b∈jB env\/ZF b) i0 l5 s s5)
  (q:∀v s1 s2,KW C (fun b=>b∈[I0]\/b∈jB env\/ZF b) s s1->KJ C [I0] s1 s2->I Y0 its.length v s2->Q (.ret v) s2):
  wpAny C.M (A.deeper env) (execs (eY p) env) Q E s5:=by
 obtain⟨fs,lf,li,lv,inv,it,list,rs,hits,hi0,kw⟩:=m
 have hPY:∀b∈[I0],b∈[I0]++Yl:=fun b hb=>xn _ hb
 refine wpAny_execs_cons (wpAny_For (ne (tL fs li kD kD ?_)) (by intro _;rfl))
 refine wpAny_pyIter_listiter it ?_
 have hlen:=rs.length
 have hIad:ad≠I0:=fun e=>tl (by simp[e])
 refine xQ (id it) fun oit mj hcit hdit=> ?_
 refine jH (id list) fun oad hoad _=> ?_
 have itr:gT C (A.deeper env) ([I0]++Yl) I0 its s5.heap:=by
  refine⟨_,_,_,_,i0,Walks.list (A:=A.deeper env) hh I0 ad hIad vs.toArray,⟨it,list⟩,?_,⟨fun b hb=> ?_,fun b hb=> ?_⟩,?_,?_⟩
  ·rw[<-hits];simp[hlen];lia
  ·simp at hb
   rcases hb with rfl|rfl
   ·exact .inl rfl
   ·exact .inr tl
  ·simp at hb
   rcases hb with rfl|rfl
   ·exact⟨_,mj⟩
   ·exact⟨_,hoad⟩
  ·rintro j h ⟨⟨o,ho,hc,_⟩,_⟩;exact⟨o,ho,.inl hc⟩
  ·intro j v hv d hd
   have hv:vs[i0+j]? =some v:=by simpa using hv
   refine jH (rs.getV hv) fun d' yP hr=> ?_
   rw[<-hits,List.getElem?_drop] at hd
   rw[hd] at yP;replace yP:=j6 yP;subst yP
   exact hr
 refine jEu fc rfl kM qJ rf fs rZ hIn hP hc wY oI yY sA lf ⟨v0,lv,inv⟩ (SrcR.ofIt (by simp) itr) fun v s6 s7 l7 ny kj dz lv7 inv7=> ?_
 refine wpAny_execs_cons (ne (wpAny_Return_some (E:=NE) (tL dz lv7 kD kD ?_)))
 exact q _ s6 s7 (kw.trans ny) kj (fc.sub Yl Y0 _ _ _ inv7 rZ fun a ha=>ha)
theorem jAj{af ar:Addr}{I:List Addr->Nat->Value->Shared->Prop}{its ds:List D}{ZF:Addr->Prop}{sv v0:Value}{args:List Value}{Q:q4}(bs:Base C)(g:Gr C s)(hP:C.P∈Y)(hY:∀a∈Y,C.g0.get? a=none)(hYs:∀a∈Y,∃o,s.heap.get? a=some o)
  (hm:C.mg "reduce"=some (.ref ar)) (room:yA n A) (fc:dk C n A af I its ZF s Y) (hI:I Y 0 v0 s) (aH:RD C s.heap Y sv (.list ds))
  (pQ:(args=[.ref af,sv,v0]/\ds=its/\((∃x o,v0= .ref x/\s.heap.get? x=some o/\(o.cls= .type "list"\/o.cls= .type "tuple"))\/∃i t,v0= .int i t))\/
   (args=[.ref af,sv]/\∃a,ds=a::its/\∃l0 vs m,sv= .ref l0/\s.heap.get? l0=some (jc (v0::vs) m)))
  (q:∀v s',KW C ZF s s'->I Y its.length v s'->Q v s'):wpAny C.M A (call (.ref ar) args) Q E s:=by
 obtain⟨fn,ar',o,pm,code,doc,dt,ai,tI,nt,oi,rf,rX,ho,hd,fD,hdt,hdtd,hmi,hai,haic⟩:=bs.red
 rw[hm] at rX;cases rX
 have ok:=vr rf.ok
 obtain⟨_,_,_,_,hpar⟩:=rf.params
 have uM:fn.params.args.map (·.arg)=(["function","sequence","initial"]:List Str):=rf.names
 have tj:=room.depth
 refine jj aH.list_inv ?_;rintro ad vs mv rfl hadv rs0
 obtain⟨mw,tl⟩:=jM hadv
 obtain⟨iv,hbind,wR⟩:∃iv,(∀(R:mL->Shared->Prop),R (fn.names.zip [.ref af,.ref ad,iv]) s->wpAny C.M A.in1 (bindArgs { docDef "reduce" fn.params fn.body fn.scope pm code doc with defaults:= .ref dt } ⟨args,[]⟩) R (fun e s'=>E e s') s)/\
   ((iv=v0/\ds=its/\((∃x o,v0= .ref x/\x≠ai/\s.heap.get? x=some o)\/∃i t,v0= .int i t))\/(iv= .ref ai/\∃a dI,ds=a::its/\vs=v0::dI)):=by
  rcases pQ with ⟨rfl,h1,h2⟩|⟨rfl,a,h1,l0,dI,m',h2,h3⟩
  ·refine⟨v0,fun R hR=>jF8 (fd:={ docDef "reduce" fn.params fn.body fn.scope pm code doc with defaults:= .ref dt }) hpar rfl (g.keep _ _ hdt) hdtd (by rw[rf.names] at hR;exact hR),.inl ⟨rfl,h1,?_⟩⟩
   rcases h2 with ⟨x,ox,h2,h3,h4⟩|h2
   ·refine .inl ⟨x,ox,h2,fun e=> ?_,h3⟩
    have:=g.keep _ _ hai
    rw[<-e,h3] at this
    replace this:=j6 this;subst this
    rw[haic] at h4
    rcases h4 with h4|h4 <;> (injection h4 with h4;exact absurd h4 kD)
   ·exact .inr h2
  ·refine⟨.ref ai,fun R hR=>jDl (fd:={ docDef "reduce" fn.params fn.body fn.scope pm code doc with defaults:= .ref dt }) hpar rfl (g.keep _ _ hdt) hdtd (by rw[rf.names] at hR;exact hR),.inr ⟨rfl,a,dI,h1,?_⟩⟩
   cases h2
   rw[mw] at h3
   simp only[jc,Option.some.injEq,Obj.mk.injEq,Data.seq.injEq] at h3
   exact congrArg Array.toList h3.2.2.1.1
 refine wpAny_call (codeAny_call_function (fd:={ docDef "reduce" fn.params fn.body fn.scope pm code doc with defaults:= .ref dt }) (body:=fn.body) (by have:recursionLimit=1000:=rfl;lia) (g.keep _ _ ho) hd ok.co ok.gen rfl (fD.keeps g.keep) ?_)
 refine hbind _ (ne ?_)
 have hb:∃l0,y5 fn.names [.opq (.ref af),.opq (.ref ad),.opq iv]=some l0:=by rw[rf.names];exact⟨_,rfl⟩
 obtain⟨l0,hb⟩:=hb
 have um:∀x,l0 x=((fn.names.zip [D.opq (.ref af),.opq (.ref ad),.opq iv]).lookup x).map .val:=xB hb
 rw[rf.names] at um
 have lf0:l0 "function"=some (.val (.opq (.ref af))):=by rw[um];rfl
 have sf:l0 "sequence"=some (.val (.opq (.ref ad))):=by rw[um];rfl
 have li0:l0 "initial"=some (.val (.opq iv)):=by rw[um];rfl
 refine za (k:=false) (n:=n) (A:=A) ok bs g hP hY hYs (fun env=>room.deeper) hb (.cons (.opq _) (.cons (.opq _) (.cons (.opq iv) .nil))) (fun h=>by exact zf h) fun env s1 zE qP wX hcn qJ kM=>⟨bs.nolimit.keeps (g.kp bs zE).keep,codeAny_func ?_⟩
 have hfresh:∀a,s1.heap.get? a=none->s.heap.get? a=none:=fun a ha=>xX zE.kw g.tab (Z:=fun _=>False) ha
 have eA:I (jB env++Y) 0 v0 s1:=fc.more Y (jB env++Y) (jB env) 0 v0 s s1 hI zE wX (fun a ha=>qP.pre.hYs a (jz _ (xn _ ha))) (fun a ha=>jq.mp ha) (fun a ha=>jz _ ha) hP
 have eU:q5 C s1.heap (jB env++Y) vs ds:=q5.moreL zE hP wX (fun a ha=>jq.mp ha) rs0
 have tm:ad≠C.P:=fun e=>tl (e▸hP)
 have rM:=zE.heap tm mw
 have mx:ad∉jB env:=fun hm=>by rw[wX ad hm] at mw;exact zn mw
 have hadYl:ad∉jB env++Y:=fun hm=>(jq.mp hm).elim mx tl
 have kE:∀x∈(["function","sequence","initial","it","value","element"]:List Str),env.kindOf x=some .local:=fun x hx=>by
  refine(?_:env.scope.names.lookup x=_)
  rw[qJ];exact rf.loc x hx
 have bz:∀x∈(["iter","next","_initial_missing"]:List Str),env.kindOf x=some .globalImplicit:=fun x hx=>by
  refine(?_:env.scope.names.lookup x=_)
  rw[qJ];exact rf.glb x hx
 obtain⟨p,h0,hs,kG⟩:=rf.shape
 rw[kG]
 refine wpAny_execs_cons (zy (n:=n) (k:=false) (by rfl) ?_)
 refine Call_Name rfl (xZ (v:= .builtin "iter") qP.pre (bz "iter" kD) kD boot_iter kD ?_)
 refine callWith_builtin rfl (evalArgs_plain (spliced_cons (tL qP sf kD kD (spliced_nil ?_))))
 have hlist1:s1.heap.IsList ad vs.toArray:=⟨_,rM,rfl,mv,rfl⟩
 refine jB0 hlist1 ?_
 generalize vI:({ s1 with heap:=s1.heap.push { cls:= .type "list_iterator",data:= .fields #[.ref ad,.int 0 0] } }:Shared)=s2
 generalize aw:s1.heap.objs.size=I0
 have nA:s1.heap.get? I0=none:=aw▸qy _
 have yf:KP C s1 s2:=by rw[<-vI];exact KP.of nL fun b o e=>wW _ e
 have mr:s2.heap.get? I0=some { cls:= .type "list_iterator",data:= .fields #[.ref ad,.int 0 0] }:=by rw[<-vI,<-aw];exact Heap.get?_push_size _ rfl
 have tV:∀a∈[I0],s1.heap.get? a=none:=fun a ha=>by replace ha:=j4.mp ha;subst ha;exact nA
 have au:∀a∈[I0],∃o,s2.heap.get? a=some o:=fun a ha=>by replace ha:=j4.mp ha;subst ha;exact⟨_,mr⟩
 have xa:FS C n false (A.deeper env) env ([I0]++(jB env++Y)) [] l0 s2:=qP.moreJ yf tV au
 have hIn:I0∉jB env++Y:=fun hm=>by obtain⟨o,e⟩:=qP.pre.hYs I0 (jz _ hm);rw[nA] at e;exact zn e
 have hO:I ([I0]++(jB env++Y)) 0 v0 s2:=fc.more (jB env++Y) ([I0]++(jB env++Y)) [I0] 0 v0 s1 s2 eA yf tV au (fun a ha=>jq.mp ha) (fun a ha=>jz _ ha) qP.hP
 have eT:q5 C s2.heap ([I0]++(jB env++Y)) vs ds:=q5.moreL yf qP.hP tV (fun a ha=>jq.mp ha) eU
 have hadI:ad≠I0:=fun e=>by rw[e,nA] at rM;exact zn rM
 have hadY2:ad∉[I0]++(jB env++Y):=fun hm=>by
  rcases jq.mp hm with h|h
  ·replace h:=j4.mp h;exact hadI h
  ·exact hadYl h
 have hado2:=yf.heap tm rM
 have bP:s.heap.get? I0=none:=hfresh I0 nA
 have yY:∀b,(b∈[I0]\/b∈jB env)->s.heap.get? b=none:=fun b hb=>by
  rcases hb with hb|hb
  ·replace hb:=j4.mp hb;subst hb;exact bP
  ·exact wX b hb
 have rb:I0∉jB env:=fun hm=>hIn (xn _ hm)
 have hzex:∀b,ZF b->∃o,s.heap.get? b=some o:=fun b hb=>hYs b (fc.zf b hb)
 have sA:∀b,ZF b->b≠I0/\b≠env.locals/\(∀p∈env.cells,p.2≠b):=fun b hb=>by
  obtain⟨o,ho⟩:=hzex b hb
  refine⟨fun e=> ?_,fun e=> ?_,fun p hp e=> ?_⟩
  ·rw[e,bP] at ho;exact zn ho
  ·rw[e,wX _ jk] at ho;exact zn ho
  ·rw[<-e,wX _ (hcn p hp)] at ho;exact zn ho
 refine ro ([I0]++(jB env++Y)) [] l0 (.opq (.ref I0)) xa (.inl (kE "it" kD)) (.opq _) (fun s3 vO yB=> ?_)
 have zI:∀b,b∈jB env->b∈[I0]++(jB env++Y)/\s.heap.get? b=none:=fun b hb=>⟨jz _ (xn _ hb),wX b hb⟩
 have uy:∀b,b=I0->b∈[I0]++(jB env++Y)/\s.heap.get? b=none:=fun b hb=>⟨by simp[hb],hb▸bP⟩
 have wI:KW C (·∈jB env) s2 s3:=vO.mono fun b hb=>by exact hb
 have av:=fc.kw _ _ _ _ _ _ hO wI zI xa.hP xa.pre.gr.tab
 have rs3:q5 C s3.heap ([I0]++(jB env++Y)) vs ds:=q5.kw wI xa.hP (fun b hb=>(zI b hb).1) eT
 have pR:=wI.heap tm mx hado2
 have tq:I0≠C.P:=fun e=>by obtain⟨oo,ho'⟩:=hYs C.P hP;rw[<-e,bP] at ho';exact zn ho'
 have hit3:=wI.heap tq rb mr
 have oI2:Own C [I0] s2.heap:=by
  rw[<-vI]
  exact Own.fresh qP.pre.gr.tab (fun a ha=>by replace ha:=j4.mp ha;subst ha;exact tq) (fun b o e=>wW _ e) tV (fun a ha=>by
   replace ha:=j4.mp ha;subst ha;rw[<-aw];exact⟨_,Heap.get?_push_size _ rfl⟩)
 have e7:Own C [I0] s3.heap:=oI2.kw xa.pre.gr.tab wI
 have bl:KW C (fun b=>b∈[I0]\/b∈jB env\/ZF b) s s3:=((KP.kw (zE.trans yf)).trans (wI.mono fun b hb=>Or.inr (Or.inl hb)))
 have fin:∀v s6 s7,KW C (fun b=>b∈[I0]\/b∈jB env\/ZF b) s s6->KJ C [I0] s6 s7->I Y its.length v s7->Q v s7:=fun v s6 s7 kw kj hI=>by
  have kw7:KW C (fun b=>b∈jB env\/ZF b) s s7:=kw.lastJ (J:=[I0]) (fun b hb=>by replace hb:=j4.mp hb;subst hb;exact bP) kj fun b hb=>by
   rcases hb with hb|hb
   ·exact .inr hb
   ·exact .inl hb
  exact q v s7 ((KW.refl (Z:=ZF) s).transNew kw7 fun b hb=>by
   rcases hb with hb|hb
   ·exact .inr (wX b hb)
   ·exact .inl hb) hI
 have tail:∀(i0:Nat) (l5:jQ) (s5:Shared) (E5:q4),RMid C n (A.deeper env) env (jB env++Y) I0 af ad I vs ds its v0 (fun b=>b∈[I0]\/b∈jB env\/ZF b) i0 l5 s s5->Own C [I0] s5.heap->
   wpAny C.M (A.deeper env) (execs (eY p) env) (fun f s'=>match f with
    | .ret v=>Q v s'
    |_=>False) E5 s5:=fun i0 l5 s5 E5 rm oI5=>by
  refine jEt fc room.handled kM qJ rf (fun a ha=>jz _ ha) hIn (jz _ hP) (fun p hp=>xn _ (hcn p hp)) (fun a ha=>xn _ ha) oI5 yY sA hadY2 rm fun v s6 s7 kw kj hI=>fin v s6 s7 kw kj hI
 have eh:jA l0 "it" (.val (.opq (.ref I0))) "initial"=some (.val (.opq iv)):=by unfold jA;rw[if_neg kD];exact li0
 have cu:jA l0 "it" (.val (.opq (.ref I0))) "function"=some (.val (.opq (.ref af))):=by unfold jA;rw[if_neg kD];exact lf0
 have lL:jA l0 "it" (.val (.opq (.ref I0))) "it"=some (.val (.opq (.ref I0))):=by unfold jA;rw[if_pos rfl]
 generalize jA l0 "it" (.val (.opq (.ref I0)))=l3 at eh cu lL yB
 have hai3:=yB.pre.gr.keep _ _ hai
 refine wpAny_execs_cons (wpAny_If (ne (wpAny_isTrue_Compare1 (tL yB eh kD kD (ql yB.pre (bz "_initial_missing" kD) hmi kD ?_)))))
 rcases wR with ⟨rfl,wq,pv⟩|⟨hiv,a,dI,wq,aF⟩
 ·refine jJd hai3 (by rw[haic];intro h;injection h with h;exact absurd h kD) ?_ (wpAny_truthy_bool ?_)
  ·rcases pv with ⟨x,ox,h1,h2,h3⟩|h
   ·obtain⟨o3,h4⟩:=bl.exs g.tab ⟨ox,h3⟩
    exact .inl ⟨x,o3,h1,h2,h4⟩
   ·exact .inr h
  ·simp only[Bool.false_eq_true,if_false]
   refine wpAny_execs_cons (zy (n:=n) (k:=false) (by rfl) (tL yB eh kD kD ?_))
   refine ro ([I0]++(jB env++Y)) [] l3 (.opq _) yB (.inl (kE "value" kD)) (.opq _) (fun s4 yx yw=>wpAny_execs_nil ?_)
   have kr:KW C (·∈jB env) s3 s4:=yx.mono fun b hb=>by exact hb
   refine wpAny_mono (tail 0 _ s4 _ ⟨yw,?_,?_,?_,fc.kw _ _ _ _ _ _ av kr zI xa.hP yB.pre.gr.tab,⟨_,kr.heap tq rb hit3,rfl,rfl⟩,⟨_,kr.heap tm mx pR,rfl,mv,rfl⟩,q5.kw kr xa.hP (fun b hb=>(zI b hb).1) rs3,wq,Nat.zero_le _,bl.trans (kr.mono fun b hb=>Or.inr (Or.inl hb))⟩ (e7.kw yB.pre.gr.tab kr)) (fun f s' hf=> ?_) fun _ _ x=>x
   ·unfold jA;rw[if_neg kD];exact cu
   ·unfold jA;rw[if_neg kD];exact lL
   ·unfold jA;rw[if_pos rfl]
   ·cases f with
    |ret v=>exact hf
    |next=>exact hf.elim
    |brk=>exact hf.elim
    |cont=>exact hf.elim
 ·subst hiv
  refine wpAny_is_ref_self (wpAny_truthy_bool ?_)
  simp only[if_true]
  refine wpAny_execs_cons (wpAny_Try_except (wpAny_execs_cons (zy (n:=n) (k:=false) (by rfl) ?_)))
  refine Call_Name rfl (xZ (v:= .builtin "next") yB.pre (bz "next" kD) kD boot_next kD ?_)
  refine callWith_builtin rfl (evalArgs_plain (spliced_cons (tL yB lL kD kD (spliced_nil ?_))))
  refine jBz (i:=0) (items:=vs.toArray) (x:=v0) ⟨_,hit3,rfl,rfl⟩ ⟨_,pR,rfl,mv,rfl⟩ (by rw[aF];rfl) fun h' ti hs=> ?_
  refine xQ (id ti) fun oit mj hcit hdit=> ?_
  have yx:KW C (·=I0) s3 { s3 with heap:=h' }:=KW.one (tk:=s3.toks) nL rfl tq (e7.code I0 x9) (fun b o hb e=>by rw[hs.2 b hb];exact e) ⟨_,mj⟩
  have hIl':¬env.locals=I0:=fun e=>rb (e▸jk)
  have yw:=yB.out yx (fun b hb=>(uy b hb).1) hIl' fun q hq e=>rb (e▸hcn q hq)
  have sV:=fc.kw _ _ _ _ _ _ av yx uy xa.hP yB.pre.gr.tab
  refine ro ([I0]++(jB env++Y)) [] l3 (.opq v0) yw (.inl (kE "value" kD)) (.opq _) (fun s5 dq kW=>wpAny_execs_nil (wpAny_execs_nil (wpAny_execs_nil ?_)))
  have kT:KW C (·∈jB env) { s3 with heap:=h' } s5:=dq.mono fun b hb=>by exact hb
  have rs4:q5 C h' ([I0]++(jB env++Y)) vs ds:=q5.kw yx xa.hP (fun b hb=>(uy b hb).1) rs3
  have e1:h'.get? ad=some (jc vs mv):=by rw[hs.2 ad hadI];exact pR
  refine wpAny_mono (tail 1 _ s5 _ ⟨kW,?_,?_,?_,fc.kw _ _ _ _ _ _ sV kT zI xa.hP yw.pre.gr.tab,⟨_,kT.heap tq rb mj,hcit,hdit⟩,⟨_,kT.heap tm mx e1,rfl,mv,rfl⟩,q5.kw kT xa.hP (fun b hb=>(zI b hb).1) rs4,by rw[wq];rfl,by rw[wq];simp,bl.trans ((yx.mono fun b hb=>Or.inl (by simp[hb])).trans (kT.mono fun b hb=>Or.inr (Or.inl hb)))⟩ ((e7.kw yB.pre.gr.tab yx).kw yw.pre.gr.tab kT)) (fun f s' hf=> ?_) fun _ _ x=>x
  ·unfold jA;rw[if_neg kD];exact cu
  ·unfold jA;rw[if_neg kD];exact lL
  ·unfold jA;rw[if_pos rfl]
  ·cases f with
   |ret v=>exact hf
   |next=>exact hf.elim
   |brk=>exact hf.elim
   |cont=>exact hf.elim
theorem jBu{pos:Pos}{a b:Int}{c cv:Value}(l:List Value)(h:TriplesOk l)(hs:codeAmong pos (l++[rawInt a,rawInt b,c])=some cv):codeAmong pos l=some cv\/cv=c:=by
 fun_induction TriplesOk l with
 |case1=>
  simp only[List.nil_append,codeAmong,rawInt] at hs
  revert hs;refine wL fun _ hs=> ?_
  ·replace hs:=j6 hs;subst hs;exact .inr rfl
 |case2 a' t b' u x rest ih=>
  simp only[List.cons_append,codeAmong] at hs ⊢
  revert hs;refine yU (fun hc hs=> ?_) fun hc hs=> ?_
  ·rw[if_pos hc];exact .inl hs
  ·rw[if_neg hc];exact ih h hs
 |case3 l h1 h2=>exact h.elim
theorem jJ3{pos:Pos}{cv:Value}(l:List Value)(h:TriplesOk l)(hs:codeAmong pos l=some cv):∀x t,l[1]? ≠some (.str x t):=by
 intro x t e
 induction l using cL with
 |nil=>exact nn e
 |cons a l=>
  induction l using cL with
  |nil=>exact nn e
  |cons b l=>
   obtain rfl:=j6 (show some b=some (.str x t) from e)
   induction a using cV with
   |_=>exact(h:False)
end
section
variable{C:Cx}{n:Nat}{r:Ev}{k:Bool}{A:Around}{env:Env}{Y Y' W J:List Addr}{OL N:yV}{l l':Loc}{s s' gS s1 s2:Shared}{Z Z':Addr->Prop}
theorem qX.row{h h':Heap}{c':Addr}{ps:Array Value}{a b:Int}(hP:h.get? C.P=some (tabObj ps))(hk:∀b o,b≠C.P->h.get? b=some o->h'.get? b=some o)(kU:h'.get? C.P=some (tabObj (ps++ #[rawInt a,rawInt b,.ref c'])))(hr:h'.CodeRec (.ref c') C.lq)(hn:h.get? c'=none):qX C h h':=fun x=>by
 obtain⟨tA,h1,h2,h3⟩:=x
 rw[hP] at h1
 simp only[tabObj,Option.some.injEq,Obj.mk.injEq,Data.fields.injEq,true_and,and_true] at h1
 subst h1
 have e:(ps++ #[rawInt a,rawInt b,.ref c']).toList=ps.toList++[rawInt a,rawInt b,.ref c']:=by simp
 refine⟨⟨_,kU,by rw[e];exact TriplesOk_snoc a b _ _ h2,fun pos cv hc=> ?_⟩,fun c hc=> ?_⟩
 ·rw[e] at hc
  rcases jBu _ h2 hc with hc|rfl
  ·refine ud (h3 pos cv hc) ?_;rintro c o vs t rfl ho hd hv
   refine ro c o vs t rfl (hk c o (fun e'=> ?_) ho) hd hv
   subst e'
   rw[hP] at ho;replace ho:=j6 ho;subst ho
   simp only[tabObj,Data.fields.injEq] at hd
   subst hd
   exact jJ3 _ h2 hc C.lq t (by simpa using hv)
  ·exact hr
 ·refine qU hc fun ps2 pos e1 e2=> ?_;clear hc
  rw[kU] at e1
  simp only[tabObj,Option.some.injEq,Obj.mk.injEq,Data.fields.injEq,true_and,and_true] at e1
  subst e1
  rw[e] at e2
  rcases jBu _ h2 e2 with h|h
  ·exact .inl ⟨ps,pos,hP,h⟩
  ·cases h;exact .inr hn
structure rQ(k:Bool)(sc:Scope)(ps:Arguments)(qi:Scope):Prop where
 k:k=true
 plain:zq ps=true
 d1:ps.defaults=[]
 d2:ps.kw_defaults=[]
 co:qi.isCoroutine=false
 gen:qi.isGenerator=false
 kind:qi.kind= .function
 nodup:(qi.names.map (·.1)).Nodup
 par:∀a∈ps.args,qi.names.lookup a.arg=some .local\/qi.names.lookup a.arg=some .cell
 free:∀p∈qi.names,p.2= .free->sc.names.lookup p.1=some .cell\/sc.names.lookup p.1=some .free
theorem jIy{sc qi:Scope}{ps:Arguments}{body:Expr}{pos:Pos}(h:vR k sc (.Lambda ps body qi pos)=true):rQ k sc ps qi:=by
 replace h:fb k sc ps qi=true:=h
 unfold fb at h
 simp only[Bool.and_eq_true,Bool.not_eq_true',decide_eq_true_eq,List.all_eq_true,List.isEmpty_iff] at h
 obtain⟨⟨⟨⟨⟨⟨⟨⟨⟨h0,h1⟩,h2⟩,h3⟩,h4⟩,h5⟩,h6⟩,h7⟩,h8⟩,h9⟩:=h
 exact⟨h0,h1,h2,h3,h4,h5,h6,h7,h8,h9⟩
noncomputable abbrev dc(C:Cx)(ps:Arguments)(body:Expr)(qi:Scope)(clos:yV)(pm fI:Value)(c':Addr):FuncData:=kla_fn "<lambda>" C.lq ps body qi clos pm (.ref c') fI
theorem jI7{ps:Arguments}{body:Expr}{qi:Scope}{pos:Pos}{Q:q4}(p:Pre C n k A env Y l s)(ok:rQ k env.scope ps qi)
  (q:∀f c' pm fI s',KP C s s'->s.heap.get? f=none->s'.heap.get? f=some { cls:= .type "function",data:= .func (dc C ps body qi (qk env.cells qi.names []) pm fI c') }->s'.heap.CodeRec (.ref c') C.lq->Q (.ref f) s'):
  wpAny C.M A (eval (.Lambda ps body qi pos) env) Q NE s:=by
 have hdef:defaultsOf ps env=([],[]):=by
  obtain⟨a1,a2,a3,a4,a5,a6,a7⟩:=ps
  have h1:a7=[]:=ok.d1
  have h2:a5=[]:=ok.d2
  subst h1 h2;rfl
 obtain⟨hcode,hqual⟩:=p.eo.lam ok.k
 refine kla_eval hdef ?_
 have hclos:closureFor qi env=pure (qk env.cells qi.names []):=zZ fun q hq hf=>p.eo.cells q.1 (ok.free q hq hf)
 obtain⟨gU,hP,htr,hrec⟩:=p.gr.tab
 have hd:CodeHd s.heap C.c C.P:=p.bs.hd.keeps p.gr.keep
 have hg:=p.gr.globals p.bs
 obtain⟨bm,ob,b1,b2,b3,b4,b5,b6,b7⟩:=p.bs.bat
 have bM:bm≠C.P:=fun e=>by rw[e,p.bs.hP] at b4;exact zn b4
 have hbat:s.heap.BuiltinsAt C.mg C.P:=⟨bm,ob,b1,b2,b3,bM,p.gr.keep _ _ b4,b5,b6,b7⟩
 have hgP:mainGlobals≠C.P:=fun e=>by
  refine uB p.bs.g fun o es ep ho _=> ?_
  rw[e,p.bs.hP] at ho;exact zn ho
 rw[hqual]
 generalize hc:codeAmong pos gU.toList=x0;induction x0 using cO with
 |none=>
  refine yE (kla_makeFunction hclos p.eo.glob hg hcode hd hP htr hc hgP hbat fun c' fI h' tk hx dF vF fD tB ht=> ?_)
  have hcn:s.heap.get? c'=none:=none_of fun⟨o,e⟩=>absurd (Heap.lt_size e) (Nat.not_lt.mpr dF)
  have uH:∀b o,b≠C.P->s.heap.get? b=some o->(h'.push (kla_obj "<lambda>" C.lq ps body qi (qk env.cells qi.names []) ((C.mg "__name__").getD .none) c' fI)).get? b=some o:=fun b o hb e=>wW _ (hx b o hb e)
  refine q h'.objs.size c' _ fI _ ⟨_,tk,rfl,ht,uH,qX.row hP uH (wW _ tB) (fD.push _) hcn⟩ ?_ (Heap.get?_push_size _ rfl) (fD.push _)
  exact none_of fun⟨o,e⟩=>by
   have h1:=Heap.lt_size e
   have h2:s.heap.objs.size<h'.objs.size:=Nat.lt_of_le_of_lt dF vF
   exact Nat.lt_irrefl _ (Nat.lt_trans h1 h2)
 |some cv=>
  refine yE (kla_makeFunctionHit hclos p.eo.glob hg hcode hd hP htr hc hbat fun fI h' tk hk dE ht=> ?_)
  have fD:=hrec pos cv hc
  refine ud (id fD) ?_;rintro c' oc vs t rfl ho hdd hv
  refine q h'.objs.size c' _ fI _ (KP.of ht fun b o e=>wW _ (hk b o e)) ?_ (Heap.get?_push_size _ rfl) ((fD.keeps hk).push _)
  exact none_of fun⟨o,e⟩=>absurd (Heap.lt_size e) (Nat.not_lt.mpr dE)
theorem jAh:∀{xs:List Str} {ds:List D} {l0 l1:Loc},zW l0 xs ds=some l1->∀x,l1 x=((xs.zip ds).lookup x).or (l0 x)
 |[],[],l0,l1,h,x=>by (replace h:=j6 h;subst h);rfl
 |[],_::_,l0,l1,h,x=>by cases h
 |_::_,[],l0,l1,h,x=>by cases h
 |y::xs,d::ds,l0,l1,h,x=>by
  refine mE (show (zW l0 xs ds).map (fun l=>jA l y d)=some l1 from h) ?_;rintro l2 h0 rfl
  unfold jA
  rw[List.zip_cons_cons,List.lookup_cons]
  by_cases e:x=y
  ·subst e;simp
  ·have e':(x==y)=false:=by simpa using e
   rw[if_neg e,e',jAh h0 x]
theorem jBr:∀{xs:List Str} {ds:List D} {l0 l1:Loc},zW l0 xs ds=some l1->xs.length=ds.length
 |[],[],l0,l1,h=>rfl
 |[],_::_,l0,l1,h=>by cases h
 |_::_,[],l0,l1,h=>by cases h
 |y::xs,d::ds,l0,l1,h=>by
  refine mE (show (zW l0 xs ds).map (fun l=>jA l y d)=some l1 from h) fun l2 h0 _=> ?_
  rw[List.length_cons,List.length_cons,jBr h0]
set_option tactic.hygienic true in
theorem jI9{m:Nat}{B:Around}(S:SE C m r){ps:Arguments}{body:Expr}{qi:Scope}{f c':Addr}{pm fI:Value}{as:List D}{vs:List Value}{d:D}{l1:Loc}{Q:q4}(p:Pre C n k A env Y l s)(ok:rQ k env.scope ps qi)
  (room:yA m B) (ho:s.heap.get? f=some { cls:= .type "function",data:= .func (dc C ps body qi (qk env.cells qi.names []) pm fI c') }) (fD:s.heap.CodeRec (.ref c') C.lq)
  (hb:zW (jL qi l) (ps.args.map (·.arg)) as=some l1) (he:r.E false qi l1 body=some d) (hr:q5 C s.heap Y vs as) (q:∀v s',KP C s s'->RD C s'.heap Y v d->Q v s'):
  wpAny C.M B (call (.ref f) vs) Q NE s:=by
 have tj:=room.depth
 have hlen:(ps.args.map (·.arg)).length=vs.length:=(jBr hb).trans hr.length.symm
 refine wpAny_call (kla_callFunE (fd:=dc C ps body qi (qk env.cells qi.names []) pm fI c') (body:=body) (by have:recursionLimit=1000:=rfl;lia) ho rfl ok.co ok.gen rfl fD ?_)
 rw[qc ok.plain rfl (by refine(?_:ps.args.length=vs.length);simpa using hlen)]
 refine wpAny_pure (ne ?_)
 have uM:((fun x:Arg=>x.arg)<$> ps.args)=ps.args.map (·.arg):=rfl
 have kL:(((ps.args.map (·.arg)).zip vs).map (·.1)).Nodup:=by
  rw[List.map_fst_zip (by lia)]
  have h1:=ok.plain
  unfold zq at h1
  simp only[Bool.and_eq_true,decide_eq_true_eq] at h1
  exact h1.2
 have lx:=vn p.fm.apart qi.names [] ok.nodup (fun _ h=>by cases (h)) List.Pairwise.nil
 refine vE ok.kind (fun x hx=> ?_) (fun x hx=> ?_) (fun q hq=> ?_) lx fun wx h' tk nX ht hk fm hv=> ?_
 ·have:=(List.of_mem_zip hx).1
  refine lE this fun a ha mM=> ?_
  rw[<-mM];exact ok.par a ha
 ·have hm:=qE hx
  obtain⟨c,mV⟩:=Option.isSome_iff_exists.mp (p.eo.cells x (ok.free _ hm rfl))
  rw[qz hm mV];rfl
 ·rcases yK qi.names [] q hq with h|⟨h,_⟩
  ·cases (h)
  ·exact p.fm.cl _ (mem_of_lookup h)
 ·generalize hL:s.heap.objs.size=L at nX
  have yZ:wx.locals=L:=by rw[nX];rfl
  have xV:wx.cells=cellsFrom (L+1) qi.names (qk env.cells qi.names []):=by rw[nX];rfl
  have qJ:wx.scope=qi:=by rw[nX];rfl
  have kp:KP C s { s with heap:=h',toks:=tk }:=KP.of ht hk
  have wf:=gN qi.names (s.heap.push (jc [] 0)) (qk env.cells qi.names []) (fun q hq=>by
   rcases yK qi.names [] q hq with h|⟨h,_⟩
   ·cases (h)
   ·obtain⟨v,hv⟩:=p.fm.cl _ (mem_of_lookup h)
    exact⟨v,hv.keeps fun b o e=>wW _ e⟩) lx
  rw[Heap.size_push,hL] at wf
  have sM:∀q∈wx.cells,q.2∈jB wx\/q.2∈Y:=fun q hq=>by
   rcases wf.2.2 q (xV▸hq) with h|h
   ·rcases yK qi.names [] q h with h|⟨h,_⟩
    ·cases (h)
    ·exact .inr (p.hc _ (mem_of_lookup h))
   ·exact .inl (qO _ (qG.mpr ⟨List.mem_map_of_mem (f:=(·.2)) hq,by rw[yZ];exact decide_eq_true h⟩))
  have fH:∀a∈jB wx,s.heap.get? a=none:=fun a ha=>by
   have dF:L<=a:=by
    rcases j0.mp ha with e|ha
    ·rw[e,yZ];exact Nat.le_refl _
    ·have:=of_decide_eq_true (qG.mp ha).2
     rw[yZ] at this
     exact Nat.le_of_lt this
   exact none_of fun⟨o,e⟩=>by
    have:=Heap.lt_size e
    rw[hL] at this
    exact absurd dF (Nat.not_le.mpr this)
  have sS:∀a∈jB wx,∃o,h'.get? a=some o:=fun a ha=>by
   rcases j0.mp ha with e|ha
   ·refine ue fm.ns fun m o es ep ho _=> ?_
    exact⟨o,e▸ho⟩
   ·refine jH (vK.mp (qG.mp ha).1) ?_;rintro q hq rfl
    refine qU (fm.cl q hq) fun v o ho _=> ?_
    exact⟨o,ho⟩
  have sZ:q5 C h' (jB wx++Y) vs as:=q5.moreL (J:=jB wx) kp p.hP fH (fun b hb=>jq.mp hb) hr
  have view':∀a o,view s.heap Y a=some o->view h' (jB wx++Y) a=some o:=fun a o e=>by
   obtain⟨e,nn⟩:=jM e
   refine jX (hk a o e) fun hm=> ?_
   rcases jq.mp hm with h|h
   ·rw[fH a h] at e;cases (e)
   ·exact nn h
  have pre:Pre C m false (B.deeper wx) wx (jB wx++Y) l1 { s with heap:=h',toks:=tk }:=by
   refine⟨p.bs,room.deeper,⟨by rw[qJ];exact ok.kind,by rw[nX];rfl,by rw[nX];rfl,fun x hx=> ?_,fun h=>by cases (h)⟩,p.gr.kp p.bs kp,jz _ p.hP,fun a ha=> ?_,fun a ha=> ?_,fm,fun q hq=>jq.mpr (sM q hq),fun x d hx=> ?_⟩
   ·rw[xV]
    rcases hx with hx|hx
    ·exact xA _ _ _ _ (.inl (by rw[<-qJ];exact hx))
    ·have hx':qi.names.lookup x=some .free:=by rw[<-qJ];exact hx
     have hm:=qE hx'
     obtain⟨c,mV⟩:=Option.isSome_iff_exists.mp (p.eo.cells x (ok.free _ hm rfl))
     refine xA _ _ _ _ (.inr ?_)
     rw[qz hm mV];rfl
   ·rcases jq.mp ha with h|h
    ·exact none_of fun⟨o,ho⟩=>by
      have:=fH a h
      rw[p.gr.keep _ o ho] at this;cases (this)
    ·exact p.hY a h
   ·rcases jq.mp ha with h|h
    ·exact sS a h
    ·obtain⟨o,ho⟩:=p.hYs a h
     exact⟨o,hk _ _ ho⟩
   ·rw[jAh hb x] at hx
    generalize hz:((ps.args.map (·.arg)).zip as).lookup x=x0;induction x0 using cO with
    |some d'=>
     rw[hz] at hx;cases (hx)
     refine jH (pE sZ x d hz) fun v iG rv=> ?_
     exact⟨v,hv x v (by rw[jAf kL];exact iG),rv⟩
    |none=>
     rw[hz] at hx
     have hx:jL qi l x=some d:=hx
     unfold jL at hx
     revert hx;refine yU (fun hf hx=> ?_) fun _ hx=> ?_
     ·have hm:=qE hf
      refine jH (p.loc x d hx) fun v va rv=> ?_
      refine⟨v,?_,Mine.R.mono view' rv⟩
      rcases va with ⟨fz,_⟩|⟨fz,c,hc,hv⟩
      ·have uo:env.scope.names.lookup x=some .local:=fz
       rcases ok.free _ hm rfl with h|h
       ·rw[h] at uo;cases (uo)
       ·rw[h] at uo;cases (uo)
      ·refine .inr ⟨.inr (by refine(?_:wx.scope.names.lookup x=_);rw[qJ];exact hf),c,?_,hv.keeps hk⟩
       rw[xV,xm qi.names (L+1) _ x fun q hq e1 e2=> ?_]
       ·exact qz hm hc
       ·have:=qm ok.nodup (show (x,NameKind.cell)∈qi.names by rw[<-e1,<-e2];exact hq)
        rw[hf] at this;cases (this)
     ·cases (hx)
  refine⟨p.bs.nolimit.keeps (p.gr.kp p.bs kp).keep,kla_codeExpr ?_⟩
  refine ne (S.at pre (by rw[qJ];exact he) fun v s2 yf p2 rv=> ?_)
  exact q v s2 (kp.trans yf) (Mine.R.mono (jh fun a ha=>jz _ ha) rv)
theorem Pre.subset(p:Pre C n k A env Y l s)(h:∀a∈Y',a∈Y)(hP:C.P∈Y')(hc:∀p∈env.cells,p.2∈Y'):Pre C n k A env Y' l s:=
 ⟨p.bs,p.a,p.eo,p.gr,hP,fun a ha=>p.hY a (h a ha),fun a ha=>p.hYs a (h a ha),p.fm,hc,fun x d e=>by
  refine jH (p.loc x d e) fun v a rv=> ?_
  exact⟨v,a,Mine.R.mono (jh h) rv⟩⟩
theorem jCs{g:Expr}:∀{its:List D} {d0 d':D},zJ r l g d0 its=some d'->∃acc:Nat->D,acc 0=d0/\acc its.length=d'/\∀j d,its[j]? =some d->zX r l g [acc j,d]=some (acc (j+1))
 |[],d0,d',h=>by
  replace h:=j6 h;subst h
  exact vM (fun _=>d0) rfl rfl (fun j d e=>by simp at e)
 |d::ds,d0,d',h=>by
  refine bE (show (zX r l g [d0,d]).bind (fun a'=>zJ r l g a' ds)=some d' from h) fun d1 h1 h2=> ?_
  refine xQ (jCs h2) fun acc a0 a1 a2=> ?_
  refine vM (fun j=>match j with|0=>d0|j+1=>acc j) rfl a1 (fun j e hj=> ?_)
  induction j using cN with
  |zero=>
   simp at hj;subst hj
   refine(?_:zX r l g [d0,d]=some (acc 0))
   rw[a0];exact h1
  |succ j=>exact a2 j e (by exact hj)
structure LI(C:Cx)(n:Nat)(k:Bool)(A:Around)(env:Env)(l:Loc)(acc:Nat->D)(f c':Addr)(fo co:Obj)(Y:List Addr)(j:Nat)(v:Value)(s:Shared):Prop where
 pre:Pre C n k A env Y l s
 rv:RD C s.heap Y v (acc j)
 f:s.heap.get? f=some fo
 c:s.heap.get? c'=some co
theorem jI8(S:SE C n r){ps:Arguments}{body:Expr}{qi:Scope}{pos:Pos}{f c':Addr}{pm fI:Value}{acc:Nat->D}{its:List D}{co:Obj}{eE:Array Value}{ct:Tok}(p:Pre C (n+1) k A env Y l s)(ok:rQ k env.scope ps qi)
  (hf:s.heap.get? f=some { cls:= .type "function",data:= .func (dc C ps body qi (qk env.cells qi.names []) pm fI c') }) (hc:s.heap.get? c'=some co) (hcd:co.data= .fields eE) (dK:eE[1]? =some (.str C.lq ct))
  (uA:∀j d,its[j]? =some d->zX r l (.Lambda ps body qi pos) [acc j,d]=some (acc (j+1))):
  dk C n A f (LI C (n+1) k A env l acc f c' { cls:= .type "function",data:= .func (dc C ps body qi (qk env.cells qi.names []) pm fI c') } co) its (fun _=>False) s Y where
 zf:=fun b h=>h.elim
 fobj:=fun Y j v s h=>⟨_,_,h.f,rfl⟩
 call:=fun fP Y2 j va vd d s2 Q ha g hP hY hYs rZ hI hj hd _ _ _ _ _ q=>by
  refine bE (show (zW (jL qi l) (ps.args.map (·.arg)) [acc j,d]).bind (fun l'=>r.E false qi l' body)=some (acc (j+1)) from uA j d hj) fun l1 h1 h2=> ?_
  have a1:=p.a
  have room:yA n (A.deeper fP):=⟨a1.handled,by have:=a1.depth;refine(?_:A.depth+1+1+3 * n<900);(refine Nat.lt_of_le_of_lt ?_ (by assumption);simp+arith),by have:=a1.units;refine(?_:A.units+3+4+40 * n<9000);(refine Nat.lt_of_le_of_lt ?_ (by assumption);simp+arith)⟩
  refine jI9 S hI.pre ok room hI.f ⟨c',co,eE,ct,rfl,hI.c,hcd,dK⟩ h1 h2 (.cons hI.rv (.cons hd .nil)) fun v' s' kp rv=>q v' s' kp.kw (fun m hn=>hn.at fun o e=>kp.heap (jg g.tab hn) e) ⟨hI.pre.kp kp,rv,kp.heap (fun e=> ?_) hI.f,kp.heap (fun e=> ?_) hI.c⟩
  ·have:=p.gr.ne hf (by intro h;cases h)
   exact this e
  ·subst e
   obtain⟨gU,kU,htr,_⟩:=hI.pre.gr.tab
   rw[hI.c] at kU;replace kU:=j6 kU;subst kU
   simp only[tabObj,Data.fields.injEq] at hcd
   subst hcd
   obtain⟨ptab2,mY,htr2,_⟩:=p.gr.tab
   match hl:gU.toList,htr with
   |[],_=>simp at hl;subst hl;cases dK
   | .int _ _:: .int _ _::_::_,_=>
     have:gU.toList[1]? =some (.str C.lq ct):=by simpa using dK
     rw[hl] at this;cases this
 kw:=fun Y2 j v s2 s3 Z hI kw hZ hP t=>by
  have hl:¬Z env.locals:=fun hz=>by
   refine ue p.fm.ns fun m o es ep ho _=> ?_
   rw[(hZ _ hz).2] at ho;exact zn ho
  have hcz:∀q∈env.cells,¬Z q.2:=fun q hq hz=>by
   refine qU (p.fm.cl q hq) fun v o ho _=> ?_
   rw[(hZ _ hz).2] at ho;exact zn ho
  refine⟨hI.pre.kw kw (fun b hb=>(hZ b hb).1) hl hcz,RD.kw kw hP (fun b hb=>(hZ b hb).1) hI.rv,kw.heap (p.gr.ne hf (by intro h;cases h)) (fun hz=>by rw[(hZ _ hz).2] at hf;exact zn hf) hI.f,kw.heap (fun e=> ?_) (fun hz=>by rw[(hZ _ hz).2] at hc;exact zn hc) hI.c⟩
  subst e
  obtain⟨gU,kU,htr,_⟩:=hI.pre.gr.tab
  rw[hI.c] at kU;replace kU:=j6 kU;subst kU
  simp only[tabObj,Data.fields.injEq] at hcd
  subst hcd
  match hl:gU.toList,htr with
  |[],_=>simp at hl;subst hl;cases dK
  | .int _ _:: .int _ _::_::_,_=>
    have:gU.toList[1]? =some (.str C.lq ct):=by simpa using dK
    rw[hl] at this;cases this
 more:=fun Y2 Y3 J j v s2 s3 hI kp hn he h1 h2 hP=>by
  refine⟨hI.pre.moreL kp hn he h1 h2,?_,kp.heap (p.gr.ne hf (by intro h;cases h)) hI.f,kp.heap (fun e=> ?_) hI.c⟩
  ·have:=q5.moreL kp hP hn h1 (.cons hI.rv .nil)
   cases this with|cons h _=>exact h
  ·subst e
   obtain⟨gU,kU,htr,_⟩:=hI.pre.gr.tab
   rw[hI.c] at kU;replace kU:=j6 kU;subst kU
   simp only[tabObj,Data.fields.injEq] at hcd
   subst hcd
   match hl:gU.toList,htr with
   |[],_=>simp at hl;subst hl;cases dK
   | .int _ _:: .int _ _::_::_,_=>
     have:gU.toList[1]? =some (.str C.lq ct):=by simpa using dK
     rw[hl] at this;cases this
 last:=fun Y2 J j v s2 s3 hI kj hJ rZ hP=>by
  have qQ:∀a∈Y2,a∈J++Y2:=fun a ha=>jz _ ha
  have iW:env.locals∉J:=fun hm=>by
   refine ue p.fm.ns fun m o es ep ho _=> ?_
   rw[(hJ _ hm).1] at ho;exact zn ho
  refine⟨hI.pre.lastJ kj qQ (fun a ha=>⟨xn _ ha,(hJ a ha).2⟩) hP (fun q hq=>rZ _ (p.hc q hq)) iW,?_,kj.heap (fun hm=>by rw[(hJ _ hm).1] at hf;exact zn hf) hI.f,kj.heap (fun hm=>by rw[(hJ _ hm).1] at hc;exact zn hc) hI.c⟩
  have:=q5.lastJ kj qQ (fun a ha=>xn _ ha) (.cons hI.rv .nil)
  cases this with|cons h _=>exact h
 sub:=fun Y2 Y3 j v s2 hI h1 h2=>⟨hI.pre.subset h1 (h2 _ p.hP) (fun q hq=>h2 _ (p.hc q hq)),Mine.R.mono (jh h1) hI.rv,hI.f,hI.c⟩
theorem jEx{sc:Scope}{g:Expr}(h:vR k sc g=true):∃ps body qi pos,g= .Lambda ps body qi pos:=by
 cases g <;> first|exact⟨_,_,_,_,rfl⟩|(cases h)
theorem jI6(ps:Arguments)(body:Expr)(qi:Scope)(pos:Pos):isStarred (.Lambda ps body qi pos)=false:=rfl
theorem jGl(S:SE C n r){g:Expr}{rest:List Expr}{np pos:Pos}{d:D}{Q:q4}(p:Pre C (n+1) k A env Y l s)(ok:vR k env.scope g=true)(hk:env.kindOf "reduce"=some .globalImplicit)(yF:(backTo pos (starEach rest env)).any (·.1)=false)
  (h:∀(s1:Shared),Pre C (n+1) k A env Y l s1->∀(R:List Value->Shared->Prop),(∀vs sv v0 ds its d0 s2,KP C s1 s2->Pre C (n+1) k A env Y l s2->RD C s2.heap Y sv (.list ds)->RD C s2.heap Y v0 d0->zJ r l g d0 its=some d->
    ((vs=[sv,v0]/\ds=its/\((∃x o,v0= .ref x/\s2.heap.get? x=some o/\(o.cls= .type "list"\/o.cls= .type "tuple"))\/∃i t,v0= .int i t))\/
      (vs=[sv]/\∃a,ds=a::its/\∃l0 ws m,sv= .ref l0/\s2.heap.get? l0=some (jc (v0::ws) m)))->R vs s2)->
   wpAny C.M A (spliced (backTo pos (starEach rest env))) R NE s1)
  (q:Kq C Y d s Q):wpAny C.M A (eval (.Call (.Name "reduce" np) (g::rest) [] pos) env) Q NE s:=by
 obtain⟨ps,body,qi,lp,rfl⟩:=jEx ok
 have okl:=jIy ok
 obtain⟨fn,ar,o,pm,code,doc,dt,ai,tI,nt,oi,rf,hm,ho,hd,_⟩:=p.bs.red
 refine Call_Name rfl (ql p hk hm kD ?_)
 rw[jN (jI6 ps body qi lp)]
 refine callWith_function (o:=o) (fd:={ docDef "reduce" fn.params fn.body fn.scope pm code doc with defaults:= .ref dt }) (evalArgs_plain (spliced_cons (jI7 p okl fun f c' pm' fI s1 zE i8 hf fD=> ?_)))
 have p1:=p.kp zE
 refine h s1 p1 _ fun vs sv v0 ds its d0 s2 yf p2 aH pv hfold pQ=>⟨⟨p2.gr.keep _ _ ho,hd⟩,?_⟩
 refine xQ (jCs hfold) fun acc a0 a1 a2=> ?_
 refine ud fD fun c2 co eE ct e2 hc hcd dK=> ?_;clear fD
 cases e2
 have tS:=yf.heap (p1.gr.ne hf (by intro h;cases h)) hf
 have aa:s2.heap.get? c'=some co:=yf.heap (fun e=>by
  subst e
  obtain⟨gU,kU,htr,_⟩:=p1.gr.tab
  rw[hc] at kU;replace kU:=j6 kU;subst kU
  simp only[Data.fields.injEq] at hcd
  subst hcd
  match hl:gU.toList,htr with
  |[],_=>simp at hl;subst hl;cases dK
  | .int _ _:: .int _ _::_::_,_=>
    have:gU.toList[1]? =some (.str C.lq ct):=by simpa using dK
    rw[hl] at this;cases this) hc
 have fc:=jI8 (pos:=lp) S p2 okl tS aa hcd dK a2
 have room:yA n A:=p.a.room
 refine jAj (n:=n) (its:=its) (sv:=sv) (v0:=v0) (ds:=ds) p.bs p2.gr p2.hP p2.hY p2.hYs hm room fc ⟨p2,by rw[a0];exact pv,tS,aa⟩ aH ?_ fun v s3 kw hI=> ?_
 ·rcases pQ with ⟨rfl,h1,h2⟩|⟨rfl,h1⟩
  ·exact .inl ⟨rfl,h1,h2⟩
  ·exact .inr ⟨rfl,h1⟩
 ·have:=hI.rv
  rw[a1] at this
  exact q v s3 ((zE.trans yf).trans (KP.of_kw kw)) this
theorem jB4(S:SE C n r){g e:Expr}{np pos:Pos}{a d:D}{ds:List D}{Q:q4}(p:Pre C (n+1) k A env Y l s)(ok:vR k env.scope g=true)(hk:env.kindOf "reduce"=some .globalImplicit)(xo:isStarred e=false)
  (he:r.E k env.scope l e=some (.list (a::ds))) (hf:zJ r l g a ds=some d) (q:Kq C Y d s Q):wpAny C.M A (eval (.Call (.Name "reduce" np) [g,e] [] pos) env) Q NE s:=by
 refine jGl S p ok hk (plain_any fun x hx=>by replace hx:=j4.mp hx;subst hx;exact xo) (fun s1 p1 R hR=> ?_) q
 rw[jN xo]
 refine spliced_cons (S.at (p1.mono (Nat.le_succ n)) he fun v s2 kp p2 rv=>spliced_nil ?_)
 refine jj (id rv.list_inv) ?_;rintro ad vs m rfl hv rs
 match vs,rs with
 |w::ws,.cons rw rws=>exact hR [.ref ad] (.ref ad) w (a::ds) ds a s2 kp (p1.kp kp) rv rw hf (.inr ⟨rfl,a,rfl,ad,ws,m,rfl,(jM hv).1⟩)
theorem jB3(S:SE C n r){g e i:Expr}{np pos:Pos}{a d:D}{ds:List D}{Q:q4}(p:Pre C (n+1) k A env Y l s)(ok:vR k env.scope g=true)(hk:env.kindOf "reduce"=some .globalImplicit)(xo:isStarred e=false)(hst2:isStarred i=false)
  (he:r.E k env.scope l e=some (.list ds)) (hi:r.E k env.scope l i=some a) (ha:(∃x,a= .list x)\/∃x,a= .int x) (hf:zJ r l g a ds=some d) (q:Kq C Y d s Q):wpAny C.M A (eval (.Call (.Name "reduce" np) [g,e,i] [] pos) env) Q NE s:=by
 refine jGl S p ok hk (plain_any fun x hx=>by simp at hx;rcases hx with rfl|rfl;exact xo;exact hst2) (fun s1 p1 R hR=> ?_) q
 rw[jN xo,jN hst2]
 refine spliced_cons (S.at (p1.mono (Nat.le_succ n)) he fun v s2 kp p2 rv=>spliced_cons (S.at p2 hi fun u s3 fx p3 ru=>spliced_nil ?_))
 refine hR [v,u] v u ds ds a s3 (kp.trans fx) (p1.kp (kp.trans fx)) (rv.kp fx p.hP) ru hf (.inl ⟨rfl,rfl,?_⟩)
 rcases ha with ⟨x,rfl⟩|⟨x,rfl⟩
 ·refine jj ru.list_inv ?_;rintro ad vs m rfl hv _
  exact .inl ⟨ad,_,rfl,(jM hv).1,.inl rfl⟩
 ·obtain⟨t,rfl⟩:=ru.int_inv
  exact .inr ⟨x,t,rfl⟩
variable{Q:q4}
theorem jFp{x:Str}{pos:Pos}{d:D}(p:Pre C n k A env Y l s)(h:xc C.fns C.glob r k env.scope l (.Name x pos)=some d)(q:Kq C Y d s Q):wpAny C.M A (eval (.Name x pos) env) Q NE s:=by
 have h:(if (x==("__debug__":Str)||x==("__classdict__":Str))=true then none else (env.scope.names.lookup x).bind fun kd=>ec kd (l x) (if (C.fns.lookup x).isSome then none else C.glob.lookup x))=some d:=h
 revert h;refine tN fun hx h=> ?_
 ·simp only[Bool.or_eq_true,not_or,Bool.not_eq_true] at hx
  obtain⟨h1,h2⟩:=hx
  have var:l x=some d->wpAny C.M A (eval (.Name x pos) env) Q NE s:=fun hl=>by
   refine jH (p.loc x d hl) fun v va rv=> ?_
   exact pW p va h1 h2 (q v s (KP.refl s) rv)
  refine bE h fun kd hk h=> ?_
  cases kd with
  |«local»=>exact var h
  |cell=>exact var h
  |free=>exact var h
  |globalImplicit=>
   revert h;refine tN fun _ h=> ?_
   ·refine jH (p.bs.gl x d h) fun v hv rv=> ?_
    exact ql p hk hv h1 (q v s (KP.refl s) (jE5 p.gr p.hY rv))
  |_=>exact zn h
theorem jE9(S:SE C n r){a b:Expr}{op:Operator}{pos:Pos}{d:D}(p:Pre C n k A env Y l s)(h:xc C.fns C.glob r k env.scope l (.BinOp a op b pos)=some d)(q:Kq C Y d s Q):wpAny C.M A (eval (.BinOp a op b pos) env) Q NE s:=by
 have h:((r.E k env.scope l a).bind fun x=>(r.E k env.scope l b).bind fun y=>wy op x y)=some d:=h
 refine bE h fun x h1 h=> ?_
 refine bE h fun y h2 h=> ?_
 refine jG3 (S.at p h1 fun v s1 k1 p1 r1=>S.at p1 h2 fun u s2 k2 p2 r2=> ?_)
 exact wB p2.hP p2.lt h (r1.kp k2 p.hP) r2 fun v s3 k3 r3=>q v s3 ((k1.trans k2).trans k3) r3
theorem jEn{i:Int}{kd:Nat}{p1 pos:Pos}(q:Kq C Y (.int (-i)) s Q):wpAny C.M A (eval (.UnaryOp .USub (.Constant (.int i) kd p1) pos) env) Q NE s:=
 wpAny_UnaryOp (wpAny_Constant_int (PyProof.Rows.neg_int (q _ _ (KP.tok (by refine(?_:s.toks<=s.toks+1+1);simp+arith only)) (.int _ _))))
theorem jE4(S:SE C n r)(a1:yW (n+1) A){t a b:Expr}{pos:Pos}{d:D}(p:Pre C n k A env Y l s)(h:xc C.fns C.glob r k env.scope l (.IfExp t a b pos)=some d)(q:Kq C Y d s Q):wpAny C.M A (eval (.IfExp t a b pos) env) Q NE s:=by
 have h:((Bt r k env.scope l 4 t).bind fun c=>if c=true then r.E k env.scope l a else r.E k env.scope l b)=some d:=h
 refine bE h fun c h1 h=> ?_
 refine wpAny_IfExp (gQ S a1 4 p h1 fun s1 k1 p1=> ?_)
 induction c using cT with
 |true=>exact S.at p1 h fun v s2 k2 p2 r2=>q v s2 (k1.trans k2) r2
 |false=>exact S.at p1 h fun v s2 k2 p2 r2=>q v s2 (k1.trans k2) r2
theorem jB7(S:SE C n r)(a1:yW (n+1) A){a b:Expr}{op:CmpOp}{pos:Pos}{d:D}(p:Pre C n k A env Y l s)(h:xc C.fns C.glob r k env.scope l (.Compare a [op] [b] pos)=some d)(q:Kq C Y d s Q):wpAny C.M A (eval (.Compare a [op] [b] pos) env) Q NE s:=by
 have h:(if qZ b=true then none else (r.E k env.scope l a).bind fun x=>(r.E k env.scope l b).bind fun y=>(wb op x y).map .bool)=some d:=h
 revert h;refine tN fun hs h=> ?_
 ·refine bE h fun x h1 h=> ?_
  refine bE h fun y h2 h=> ?_
  refine mE h ?_;rintro c h3 rfl
  refine wpAny_Compare1 (S.at p h1 fun v s1 k1 p1 r1=>S.at p1 h2 fun u s2 k2 p2 r2=>jCw a1 h3 (r1.kp k2 p.hP) r2 fun tk ht=> ?_) (jD1 (by simpa using hs))
  exact q _ _ ((k1.trans k2).trans (KP.tok ht)) (.bool c)
theorem jBw(S:SE C n r)(a1:yW (n+1) A){elt:Expr}{gens:List Comprehension}{jS:Scope}{pos:Pos}{d:D}(p:Pre C n k A env Y l s)(h:xc C.fns C.glob r k env.scope l (.ListComp elt gens jS pos)=some d)(q:Kq C Y d s Q):wpAny C.M A (eval (.ListComp elt gens jS pos) env) Q NE s:=by
 match gens with
 |[]=>cases h
 |g::gs=>
  refine bE (show Option.bind ((r.E k env.scope l g.iter).bind ju) _=some d from h) fun its h1 h=> ?_
  refine bE h1 fun d1 h1 h2=> ?_
  revert h;refine wL fun ok h=> ?_
  ·refine bE h fun out h3 h=> ?_
   revert h;refine wL fun hlen h=> ?_
   ·replace h:=j6 h;subst h
    have oc:=nO ok
    have tR:firstAsync (g::gs)=false:=by
     have h0:=oc.sync g jk
     cases g;simp only at h0;subst h0;rfl
    have tQ:firstIter (g::gs) env=eval g.iter env:=by cases g;rfl
    rw[arm_eval_ListComp,tR,tQ]
    exact jCu S a1 (kindL S fun g hg=>oc.sync g hg) p h1 h2 ok h3 hlen q
theorem jBy(S:SE C n r)(a1:yW (n+1) A){ke ve:Expr}{gens:List Comprehension}{jS:Scope}{pos:Pos}{d:D}(p:Pre C n k A env Y l s)(h:xc C.fns C.glob r k env.scope l (.DictComp ke ve gens jS pos)=some d)(q:Kq C Y d s Q):wpAny C.M A (eval (.DictComp ke ve gens jS pos) env) Q NE s:=by
 match gens with
 |[]=>cases h
 |_::_::_=>cases h
 |[g]=>
  refine bE (show Option.bind ((r.E k env.scope l g.iter).bind ju) _=some d from h) fun its h1 h=> ?_
  refine bE h1 fun d1 h1 h2=> ?_
  revert h;refine wL fun ok h=> ?_
  ·have oc:=nO ok
   have tR:firstAsync [g]=false:=by
    have h0:=oc.sync g jk
    cases g;simp only at h0;subst h0;rfl
   have tQ:firstIter [g] env=eval g.iter env:=by cases g;rfl
   rw[arm_eval_DictComp,tR,tQ]
   refine bE h fun ps h3 h=> ?_
   revert h;refine wL fun hlen h=> ?_
   ·refine mE h ?_;rintro m0 hm rfl
    exact jCu S a1 (kindDS S (fun g hg=>oc.sync g hg) hm) p h1 h2 ok h3 hlen q
theorem jFs(S:SE C n r){es:List Expr}{pos:Pos}{d:D}(p:Pre C n k A env Y l s)(h:xc C.fns C.glob r k env.scope l (.List es pos)=some d)(q:Kq C Y d s Q):wpAny C.M A (eval (.List es pos) env) Q NE s:=by
 refine bE (show (wG r k env.scope l es).bind (fun ds=>if ds.length<=lim then some (.list ds) else none)=some d from h) fun ds h1 h=> ?_
 revert h;refine wL fun hl h=> ?_
 ·replace h:=j6 h;subst h
  exact jGa S p h1 hl q
theorem jEo(S:SE C n r){es:List Expr}{kd:Nat}{pos:Pos}{d:D}(p:Pre C n k A env Y l s)(h:xc C.fns C.glob r k env.scope l (.Tuple es kd pos)=some d)(q:Kq C Y d s Q):wpAny C.M A (eval (.Tuple es kd pos) env) Q NE s:=by
 refine bE (show (wG r k env.scope l es).bind (fun ds=>if ds.length<=lim then some (.tup ds) else none)=some d from h) fun ds h1 h=> ?_
 revert h;refine wL fun hl h=> ?_
 ·replace h:=j6 h;subst h
  exact jFd S p h1 hl q
theorem wj(S:SE C n r){e:Option Expr}{o:Option Int}(p:Pre C n k A env Y l s)(h:zG r k env.scope l e=some o)(q:∀(ot:Option (Int×Tok)) s',ot.map (·.1)=o->KP C s s'->Pre C n k A env Y l s'->Q (partValue ot) s'):wpAny C.M A (evalPart e env) Q NE s:=by
 induction e using cO with
 |none=>
  replace h:=j6 h;subst h
  exact wpAny_pure (q none s rfl (KP.refl s) p)
 |some e=>
  refine bE (show ((r.E k env.scope l e).bind fun d=>d.asInt?.map some)=some o from h) fun d hd h2=> ?_
  refine mE h2 fun i hi h3=> ?_
  rw[gP hi] at hd
  refine evalPart_some_step (S.at p hd fun v s1 k1 p1 r1=> ?_)
  obtain⟨t,rfl⟩:=r1.int_inv
  exact q (some (i,t)) s1 h3 k1 p1
theorem gx(ot:Option (Int×Tok)):IsPart (partValue ot) (ot.map (·.1)):=by
 induction ot using cO with
 |none=>exact .none
 |some p=>exact .int _ _
theorem jEs(S:SE C n r){v:Expr}{lo hi st:Option Expr}{p1 pos:Pos}{d:D}(p:Pre C n k A env Y l s)(h:xc C.fns C.glob r k env.scope l (.Subscript v (.Slice lo hi st p1) pos)=some d)(q:Kq C Y d s Q):wpAny C.M A (eval (.Subscript v (.Slice lo hi st p1) pos) env) Q NE s:=by
 have h:((r.E k env.scope l v).bind fun d=>(zG r k env.scope l lo).bind fun lo=>(zG r k env.scope l hi).bind fun hi=>(zG r k env.scope l st).bind fun st=>fW d.flat lo hi st)=some d:=h
 refine bE h fun x h1 h=> ?_
 refine bE h fun ee h2 h=> ?_
 refine bE h fun i7 h3 h=> ?_
 refine bE h fun ck h4 h=> ?_
 refine Subscript_ (S.at p h1 fun u s1 k1 p1 r1=>wpAny_Slice (wj S p1 h2 fun ol s2 e2 k2 p2=>wj S p2 h3 fun oh s3 e3 k3 p3=>wj S p3 h4 fun cm s4 e4 k4 p4=> ?_))
 have nR:=(k2.trans k3).trans k4
 have r4:=r1.kp nR p.hP
 have tM:KP C s4 { s4 with heap:=s4.heap.push { cls:= .type "slice",data:= .fields #[partValue ol,partValue oh,partValue cm] } }:=KP.push (tk:=s4.toks) nL
 have r5:=r4.kp tM p.hP
 have p5:=p4.kp tM
 have kk:=(k1.trans nR).trans tM
 subst e2 e3 e4
 have r5:=r5.flat
 generalize x.flat=x at h r5
 induction x using cD with
 |list ds=>
  replace h:(if cm.map (·.1)≠some 0/\ds.length<=lim then some (D.list (pick ds (ol.map (·.1)) (oh.map (·.1)) (cm.map (·.1)))) else none)=some d:=h
  revert h;refine wL fun hc h=> ?_
  ·replace h:=j6 h;subst h
   exact jAp r5 (Heap.IsSliceOf.new ..) (gx ol) (gx oh) (gx cm) hc.1 hc.2 p.hP p5.lt fun v s6 k6 r6=>q v s6 (kk.trans k6) r6
 |str y=>
  replace h:(if cm.map (·.1)=none/\y.length<=lim then some (D.str (Txt.slice y (ol.map (·.1)) (oh.map (·.1)))) else none)=some d:=h
  revert h;refine wL fun hc h=> ?_
  ·replace h:=j6 h;subst h
   obtain⟨hn,hl⟩:=hc
   induction cm using cO with
   |some o=>cases hn
   |none=>
    refine jA0 (lo:=ol) (hi:=oh) r5 ⟨_,Heap.get?_push_size _ rfl,rfl,rfl⟩ hl fun v s6 k6 r6=>q v s6 (kk.trans k6) r6
 |_=>exact nn h
theorem jE3(S:SE C n r){v e:Expr}{pos:Pos}{x i d:D}(p:Pre C n k A env Y l s)(h1:r.E k env.scope l v=some x)(h2:r.E k env.scope l e=some i)(h3:wN x i=some d)(q:Kq C Y d s Q):wpAny C.M A (eval (.Subscript v e pos) env) Q NE s:=
 Subscript_ (S.at p h1 fun u s1 k1 p1 r1=>S.at p1 h2 fun w s2 k2 p2 r2=>jBe h3 (r1.kp k2 p.hP) r2 fun y s3 k3 r3=>q y s3 ((k1.trans k2).trans k3) r3)
theorem jAz(S:SE C n r){v e:Expr}{pos:Pos}{d:D}(p:Pre C n k A env Y l s)(h:xc C.fns C.glob r k env.scope l (.Subscript v e pos)=some d)(q:Kq C Y d s Q):wpAny C.M A (eval (.Subscript v e pos) env) Q NE s:=by
 by_cases hs:∃lo hi st p1,e= .Slice lo hi st p1
 ·obtain⟨lo,hi,st,p1,rfl⟩:=hs
  exact jEs S p h q
 ·have h:((r.E k env.scope l v).bind fun x=>(r.E k env.scope l e).bind fun y=>wN x y)=some d:=by
   cases e <;> first|exact h|exact absurd ⟨_,_,_,_,rfl⟩ hs
  refine bE h fun x h1 h=> ?_
  refine bE h fun y h2 h=> ?_
  exact jE3 S p h1 h2 h q
theorem jEk{o:Expr}{m:Str}(h:zM o=false):attributeBase o m env (eval o env)=eval o env:=by
 cases o <;> first|rfl|(cases h)
theorem jGh{e:Expr}{y:Str}(h:strC? e=some y):∃k p,e= .Constant (.str y) k p:=by
 induction e using cE with
 |Constant c k p=>
  induction c using cC with
  |str z=>exact⟨k,p,by rw[j6 h]⟩
  |_=>exact nn h
 |_=>exact nn h
theorem jFl(S:SE C n r){o:Expr}{ap cp:Pos}{args:List Expr}{d:D}(p:Pre C n k A env Y l s)(sL:zM o=false)(vG:(ap.endLine==cp.line)=true)(h:pG C.fns (r.E k env.scope l o) args=some d)(q:Kq C Y d s Q):wpAny C.M A (eval (.Call (.Attribute o "replace" ap) args [] cp) env) Q NE s:=by
 refine qU (gI h) ?_;rintro a b rfl h
 refine bE h fun y ha h2=> ?_
 refine bE h2 fun z hb h3=> ?_
 refine bE h3 fun dx hx h4=> ?_
 refine jH (qT h4) ?_;rintro x rfl hf
 clear h h2 h3 h4
 refine pA (jGh ha) ?_;rintro ky py rfl
 refine pA (jGh hb) ?_;rintro kz pz rfl
 revert hf;refine wL fun hc hf=> ?_
 ·replace hf:=j6 hf;subst hf
  refine wpAny_Call_method_lateS (jEk sL) (by rfl) vG (S.at p hx fun u s1 k1 p1 r1=> ?_)
  obtain⟨t,rfl⟩:=r1.str_inv
  refine⟨"str","str.replace",PySem.F.plainAttrs_str,PySem.F.slot_str_replace,PySem.F.type_str_replace,typeIs_str _ _ _,fun a e=>(by cases e),?_⟩
  refine callWith_builtin rfl (evalArgs_plain (spliced_cons ?_))
  rw[eval_Constant]
  refine wpAny_mkText (spliced_cons ?_)
  rw[eval_Constant]
  refine wpAny_mkText (spliced_nil ?_)
  have ku:=p1.gr.toks hc.1
  refine yE (SC.replaceW (Nat.pos_iff_ne_zero.mp ku) (by refine(?_:s1.toks+1≠0);lia) (by refine(?_:s1.toks≠s1.toks+1);lia) hc.2.2.2 (by lia) hc.2.2.1 fun t' k' ht=> ?_)
  exact q _ _ (k1.trans (KP.tok (xJ (show s1.toks<=s1.toks+1+1 by simp+arith only) ht))) (.str _ _)
def MethOk(m:Str)(x:D):Prop:=∃(T:String),PlainAttrs T/\Slot T m (gY m)/\typeOf (.builtin (gY m))=pure (.type "method_descriptor")/\((T="str"/\∃y,x= .str y)\/(T="list"/\∃y,x= .list y))
theorem meth_ok{x d:D}{m:Str}{as:List D}(h:kC x m as=some d):MethOk m x:=
 jA9 h (P:=fun m=>MethOk m x) (fun h=>let ⟨_,e,_⟩:=qT h;⟨"str",PySem.F.plainAttrs_str,PySem.F.slot_str_find,PySem.F.type_str_find,.inl ⟨rfl,_,e⟩⟩) (fun h=>let ⟨_,e,_⟩:=qT h;⟨"str",PySem.F.plainAttrs_str,PySem.F.slot_str_split,PySem.F.type_str_split,.inl ⟨rfl,_,e⟩⟩) (fun h=>let ⟨_,e,_⟩:=qT h;⟨"str",PySem.F.plainAttrs_str,PySem.F.slot_str_join,PySem.F.type_str_join,.inl ⟨rfl,_,e⟩⟩) fun h=>let ⟨_,e,_⟩:=qd h;⟨"list",PySem.F.plainAttrs_list,PySem.F.slot_list_index,PySem.F.type_list_index,.inr ⟨rfl,_,e⟩⟩
theorem jC9(S:SE C n r)(a1:yW (n+1) A){o:Expr}{m:Str}{ap cp:Pos}{args:List Expr}{d:D}(p:Pre C n k A env Y l s)(h:xc C.fns C.glob r k env.scope l (.Call (.Attribute o m ap) args [] cp)=some d)(q:Kq C Y d s Q):wpAny C.M A (eval (.Call (.Attribute o m ap) args [] cp) env) Q NE s:=by
 have hh:(if zM o=true\/(ap.endLine==cp.line)=false\/args.length≥20\/args.length=0 then none else
  if m="replace" then pG C.fns (r.E k env.scope l o) args
  else (r.E k env.scope l o).bind fun d=>(wG r k env.scope l args).bind fun as=>kC d m as)=some d:=h
 clear h
 revert hh;refine tN fun hg hh=> ?_
 ·simp only[not_or,Bool.not_eq_true,Bool.not_eq_false,Nat.not_le] at hg
  refine ug hg fun sL vG vF jv=> ?_;clear hg
  revert hh;refine yU (fun hm hh=> ?_) fun hm hh=> ?_
  ·subst hm
   exact jFl S p sL vG hh q
  ·refine bE hh fun x h1 hh1=> ?_
   clear hh
   refine bE hh1 fun as h2 h=> ?_
   clear hh1
   have xo:=wF h2
   have yF:=plain_any (pos:=cp) (env:=env) xo
   have hmeth:=meth_ok h
   obtain⟨T,lz,ag,hT3,hT4⟩:=hmeth
   have hfew:((backTo cp (starEach args env)).all (fun x=> !x.1)&&(backToKw cp (keywordEach [] env)).all (fun x=>x.1.isSome)&&decide (args.length+([]:List Keyword).length+(if ([]:List Keyword).isEmpty then 0 else 1)<30))=true:=by
    have e1:(backTo cp (starEach args env)).all (fun x=> !x.1)=true:=by
     rw[List.all_eq_true]
     intro y hy
     have:=List.any_eq_false.mp yF y hy
     simpa using this
    rw[e1]
    exact decide_eq_true (p:=args.length<30) (ta zA zD)
   refine wpAny_Call_method_lateS (jEk sL) hfew vG (S.at p h1 fun u s1 k1 p1 r1=> ?_)
   refine⟨T,gY m,lz,ag,hT3,?_,?_,?_⟩
   ·rcases hT4 with ⟨rfl,y,rfl⟩|⟨rfl,y,rfl⟩
    ·obtain⟨t,rfl⟩:=r1.str_inv
     exact typeIs_str _ _ _
    ·refine jj r1.list_inv ?_;rintro a vs mm rfl ho _
     exact⟨_,(jM ho).1,rfl⟩
   ·intro a e
    subst e
    rcases hT4 with ⟨rfl,y,rfl⟩|⟨rfl,y,rfl⟩
    ·obtain⟨t,e⟩:=r1.str_inv;cases e
    ·refine jj r1.list_inv fun a vs mm e ho _=> ?_
     cases e
     exact⟨_,(jM ho).1,rfl⟩
   ·refine callWith_builtin yF ?_
    match args,jv,h2,xo with
    |e::es,_,h2,xo=>
     rw[jN (xo e jk)]
     refine evalArgs_plain ?_
     have:=yM S (pos:=cp) (Q:=fun vs s'=>wpAny C.M A (call (.builtin (gY m)) (u::vs)) Q NE s') p1 h2 fun vs s2 k2 p2 r2=> ?_
     ·rw[jN (xo e jk)] at this
      exact this
     ·exact jHp a1 p2.hP p2.lt h (r1.kp k2 p.hP) r2 fun v s3 k3 r3=>q v s3 ((k1.trans k2).trans k3) r3
theorem jIe:bootBuiltins "len"=some (.builtin "len"):=by decide+kernel
theorem jIc:bootBuiltins "sum"=some (.builtin "sum"):=by decide+kernel
theorem jE7:bootBuiltins "range"=some (.type "range"):=by decide+kernel
theorem jDk:bootBuiltins "sorted"=some (.builtin "sorted"):=by decide+kernel
theorem jId:bootBuiltins "max"=some (.builtin "max"):=by decide+kernel
theorem jCz:bootBuiltins "str"=some (.type "str"):=by decide+kernel
theorem jIf:bootBuiltins "int"=some (.type "int"):=by decide+kernel
theorem jBn:bootBuiltins "list"=some (.type "list"):=by decide+kernel
theorem jAr:bootBuiltins "isinstance"=some (.builtin "isinstance"):=by decide+kernel
def BootOk(as:List D)(f:Str):Prop:=f∈ya/\bootBuiltins f=some (vx f)/\(f==("__debug__":Str))=false/\as≠[]/\((∃id,vx f= .builtin id)\/∃T,vx f= .type T)
theorem zt{α:Type}{as:List α}{k1:α->Option D}{k2:α->α->Option D}{d:D}(h:zR as k1 k2=some d):as≠[]:=by
 induction as using cL with
 |nil=>exact nn h
 |cons _ _=>exact List.cons_ne_nil _ _
theorem jDj{f:Str}{as:List D}{d:D}(h:q8 f as=some d):BootOk as f:=
 jAg h (P:=BootOk as) (fun h=>⟨by decide,jIe,by decide,zt h,.inl ⟨_,rfl⟩⟩) (fun h=>⟨by decide,jIc,by decide,zt h,.inl ⟨_,rfl⟩⟩) (fun h=>⟨by decide,jE7,by decide,zt h,.inr ⟨_,rfl⟩⟩) (fun h=>⟨by decide,jDk,by decide,zt h,.inl ⟨_,rfl⟩⟩)
  (fun h=>⟨by decide,jId,by decide,zt h,.inl ⟨_,rfl⟩⟩) (fun h=>⟨by decide,jCz,by decide,zt h,.inr ⟨_,rfl⟩⟩) fun h=>⟨by decide,jIf,by decide,zt h,.inr ⟨_,rfl⟩⟩
theorem jB8(S:SE C n r)(a1:yW (n+1) A){f:Str}{np pos:Pos}{args:List Expr}{as:List D}{d:D}(p:Pre C n k A env Y l s)(hk:env.kindOf f=some .globalImplicit)(h1:wG r k env.scope l args=some as)(h2:q8 f as=some d)(q:Kq C Y d s Q):wpAny C.M A (eval (.Call (.Name f np) args [] pos) env) Q NE s:=by
 refine fS (jDj h2) fun hu hb hd jv kE=> ?_
 have xo:=wF h1
 have yF:=plain_any (pos:=pos) (env:=env) xo
 refine Call_Name rfl (xZ p hk hu hb hd ?_)
 have main:wpAny C.M A (spliced (backTo pos (starEach args env))) (fun vs s'=>wpAny C.M A (call (vx f) vs) Q NE s') NE s:=
  yM S p h1 fun vs s2 k2 p2 r2=>jDi p2.a.handled p2.hP p2.lt h2 r2 fun v s3 k3 r3=>q v s3 (k2.trans k3) r3
 match args,h1,xo,main,yF with
 |[],h1,_,_,_=>(replace h1:=j6 h1;subst h1);exact absurd rfl jv
 |e::es,h1,xo,main,yF=>
  rw[jN (xo e jk)] at main yF ⊢
  rcases kE with ⟨id,e1⟩|⟨T,e1⟩
  ·rw[e1] at main ⊢
   exact callWith_builtin yF (evalArgs_plain main)
  ·rw[e1] at main ⊢
   exact PyProof.Rows.callWith_type yF (evalArgs_plain main)
theorem jDc(S:SE C n r){e:Expr}{b:Str}{np bp pos:Pos}{x:List D}(p:Pre C n k A env Y l s)(hk:env.kindOf "isinstance"=some .globalImplicit)(hb:b="list")(hkb:env.kindOf b=some .globalImplicit)(xo:isStarred e=false)(h1:r.E k env.scope l e=some (.list x))(q:Kq C Y (.bool true) s Q):
  wpAny C.M A (eval (.Call (.Name "isinstance" np) [e,.Name b bp] [] pos) env) Q NE s:=by
 subst hb
 refine Call_Name rfl (xZ (v:= .builtin "isinstance") p hk kD jAr kD ?_)
 rw[jN xo]
 refine callWith_builtin (by rfl) (evalArgs_plain (spliced_cons (S.at p h1 fun v s1 k1 p1 r1=>spliced_cons (xZ (v:= .type "list") p1 hkb kD jBn kD (spliced_nil ?_)))))
 refine jj r1.list_inv ?_;rintro a vs m rfl ho _
 have hT:s1.TypeIs (.ref a) "list":=⟨_,(jM ho).1,rfl⟩
 exact PyProof.Rows.call_isinstance_yes hT (by rfl) AutoSeq1.sub_list_list (q _ _ k1 (.bool true))
theorem jJl{fns:List (Str×Fn)}(S:wt C n r){f:Str}{np pos:Pos}{args:List Expr}{as:List D}{d:D}(p:Pre C (n+1) k A env Y l s)(hk:env.kindOf f=some .globalImplicit)(mU:(f==("__debug__":Str))=false)(h1:wG r k env.scope l args=some as)(h2:(zK C.fns r f as).bind qB=some d)(q:Kq C Y d s Q):wpAny C.M A (eval (.Call (.Name f np) args [] pos) env) Q NE s:=by
 refine bE h2 fun x g2 h3=> ?_
 refine bE g2 fun fn hf g3=> ?_
 refine bE g3 fun l0 hb g4=> ?_
 clear h2 g2 g3
 obtain⟨fl,l'⟩:=x
 have hfl:fl= .ret d:=by
  cases fl <;> first|((replace h3:=j6 h3;subst h3);rfl)|(cases h3)
 subst hfl
 refine fR (p.bs.fn f fn hf) fun a o pm code doc hm ho hd hc=> ?_
 have xo:=wF h1
 have yF:=plain_any (pos:=pos) (env:=env) xo
 have p0:=p.mono (Nat.le_succ n)
 refine Call_Name rfl (ql p hk hm mU ?_)
 have main:wpAny C.M A (spliced (backTo pos (starEach args env))) (fun vs s'=>(s'.heap.get? a=some o/\o.data= .func (docDef f fn.params fn.body fn.scope pm code doc))/\wpAny C.M A (call (.ref a) vs) Q NE s') NE s:=
  yM S.E p0 h1 fun vs s2 k2 p2 r2=>⟨⟨p2.gr.keep _ _ ho,hd⟩,vB S.S hf hm p.bs p2.gr p2.hP p2.hY p2.hYs p.a.room hb g4 r2 fun v s3 k3 r3=>q v s3 (k2.trans k3) r3⟩
 match args,h1,xo,main,yF with
 |[],h1,_,main,_=>
  replace h1:=j6 h1;subst h1
  exact callWith_function (o:=o) (fd:=docDef f fn.params fn.body fn.scope pm code doc) (evalArgs_nil3 ⟨⟨p.gr.keep _ _ ho,hd⟩,vB S.S hf hm p.bs p.gr p.hP p.hY p.hYs p.a.room hb g4 .nil fun v s3 k3 r3=>q v s3 k3 r3⟩)
 |e::es,h1,xo,main,yF=>
  rw[jN (xo e jk)] at main yF ⊢
  exact callWith_function (o:=o) (fd:=docDef f fn.params fn.body fn.scope pm code doc) (evalArgs_plain main)
theorem jFi{H:HV}{ks:List Str}{vs:List Value}{ds:List D}{x:Str}{v:Value}{d:D}(h1:ks.length=vs.length)(rs:Rs C.prog C.w H vs ds)(rv:R C.prog C.w H v d):
  ∃(sr:List Str) (dI:List Value) (bT:List D),stored (ks.zip vs) x v=sr.zip dI/\qt (ks.zip ds) x d=sr.zip bT/\sr.length=dI.length/\Rs C.prog C.w H dI bT:=by
 have wq:ks.length=ds.length:=h1.trans rs.length
 unfold stored qt
 rw[oX x ks vs h1,wi x ks ds wq]
 by_cases hm:x∈ks
 ·simp only[hm,decide_true,if_true]
  rw[vX x v ks vs h1,vX x d ks ds wq]
  exact vL ks _ _ rfl rfl (vg x v ks vs h1) (Rs.upd rv rs h1)
 ·simp only[hm,decide_false,Bool.false_eq_true,if_false]
  exact vL (ks++[x]) (vs++[v]) (ds++[d]) (by rw[List.zip_append h1];rfl) (by rw[List.zip_append wq];rfl) (by simp[h1]) (Rs.append rs (.cons rv .nil))
theorem yq(fns:List (Str×Fn))(glob:xO)(r:Ev)(k:Bool)(sc:Scope)(l:Loc)(f:Str)(np pos:Pos)(args:List Expr):xc fns glob r k sc l (.Call (.Name f np) args [] pos)=(if sc.names.lookup f≠some .globalImplicit\/(f==("__debug__":Str))=true then none else
  if f="reduce" then md r k sc l args
  else if f="isinstance" then pL r k sc l args
  else if (fns.lookup f).isSome then (wG r k sc l args).bind fun as=>(zK fns r f as).bind qB
  else (wG r k sc l args).bind fun as=>q8 f as):=rfl
theorem jFj{a:D}(h:jGi a=true):(∃x,a= .list x)\/∃x,a= .int x:=by
 induction a using cD with
 |list x=>exact .inl ⟨x,rfl⟩
 |int x=>exact .inr ⟨x,rfl⟩
 |_=>exact ff h
theorem jFm{fns:List (Str×Fn)}(S:wt C n r){np pos:Pos}{args:List Expr}{d:D}(p:Pre C (n+1) k A env Y l s)(hk:env.scope.names.lookup ("reduce":Str)=some .globalImplicit)(h:md r k env.scope l args=some d)(q:Kq C Y d s Q):wpAny C.M A (eval (.Call (.Name "reduce" np) args [] pos) env) Q NE s:=by
 induction args using cL with
 |nil=>exact nn h
 |cons g r2=>
  induction r2 using cL with
  |nil=>exact nn h
  |cons e r3=>
   induction r3 using cL with
   |nil=>
    replace h:(if vR k env.scope g=false\/PySem.W.isStarred e=true then none else (r.E k env.scope l e).bind fun d=>d.asList?.bind (pH r l g))=some d:=h
    revert h;refine yU (fun _ h=> ?_) fun hc h=> ?_
    ·exact nn h
    ·refine bE h fun x h1 h2=> ?_
     refine jH (qd h2) ?_;rintro ds rfl h3
     rw[not_or,Bool.not_eq_true,Bool.not_eq_false] at hc
     induction ds using cL with
     |nil=>exact nn h3
     |cons a ds=>exact jB4 S.E p hc.1 hk hc.2 h1 h3 q
   |cons i r4=>
    induction r4 using cL with
    |nil=>
     replace h:dX r k env.scope l g e i=some d:=h
     unfold dX at h
     revert h;refine yU (fun _ h=> ?_) fun hc h=> ?_
     ·exact nn h
     ·refine bE h fun x h1 h2=> ?_
      refine bE h2 fun y h3 h4=> ?_
      refine jH (qd h4) ?_;rintro ds rfl h5
      revert h5;refine yU (fun hs h5=> ?_) fun _ h5=> ?_
      ·rw[not_or,not_or,Bool.not_eq_true,Bool.not_eq_true,Bool.not_eq_false] at hc
       exact jB3 S.E p hc.1 hk hc.2.1 hc.2.2 h1 h3 (jFj hs) h5 q
      ·exact nn h5
    |cons _ _=>exact nn h
theorem jE2(S:SE C n r){np pos:Pos}{args:List Expr}{d:D}(p:Pre C n k A env Y l s)(hk:env.kindOf "isinstance"=some .globalImplicit)(h:pL r k env.scope l args=some d)(q:Kq C Y d s Q):wpAny C.M A (eval (.Call (.Name "isinstance" np) args [] pos) env) Q NE s:=by
 refine qU (gI h) ?_;rintro e b rfl h1
 refine bE h1 fun x hb h2=> ?_
 clear h h1
 obtain⟨bp,rfl⟩:=yn hb
 revert h2;refine yU (fun hc h2=> ?_) fun _ h2=> ?_
 ·refine bE h2 fun y hx h3=> ?_
  refine mE h3 ?_;rintro l hl rfl
  rw[wC hl] at hx
  exact jDc S p hk hc.1 hc.2.1 hc.2.2 hx q
 ·exact nn h2
theorem jE6{fns:List (Str×Fn)}(S:wt C n r){f:Str}{np pos:Pos}{args:List Expr}{d:D}(p:Pre C (n+1) k A env Y l s)(h:xc C.fns C.glob r k env.scope l (.Call (.Name f np) args [] pos)=some d)(q:Kq C Y d s Q):wpAny C.M A (eval (.Call (.Name f np) args [] pos) env) Q NE s:=by
 have p0:=p.mono (Nat.le_succ n)
 rw[yq] at h
 revert h;refine yU (fun _ h=> ?_) fun hg h=> ?_
 ·exact nn h
 ·rw[not_or,Decidable.not_not,Bool.not_eq_true] at hg
  obtain⟨hk,mU⟩:=hg
  revert h;refine yU (fun hf h=> ?_) fun _ h=> ?_
  ·subst hf
   exact jFm (fns:=fns) S p hk h q
  ·revert h;refine yU (fun hf h=> ?_) fun _ h=> ?_
   ·subst hf
    exact jE2 S.E p0 hk h q
   ·revert h;refine yU (fun _ h=> ?_) fun _ h=> ?_
    ·refine bE h fun as h1 g2=> ?_
     exact jJl (fns:=C.fns) S p hk mU h1 g2 q
    ·refine bE h fun as h1 g2=> ?_
     exact jB8 S.E p.a p0 hk h1 g2 q
theorem jBg{vs:List Value}{ds:List D}(p:Pre C n k A env Y l s)(rs:q5 C s.heap Y vs ds):
  KP C s { s with heap:=s.heap.push (jc vs 0) }/\s.heap.get? s.heap.objs.size=none/\(s.heap.push (jc vs 0)).get? s.heap.objs.size=some (jc vs 0)/\¬jx C (s.heap.push (jc vs 0)) s.heap.objs.size/\q5 C (s.heap.push (jc vs 0)) (s.heap.objs.size::Y) vs ds:=by
 have kp:KP C s { s with heap:=s.heap.push (jc vs 0) }:=KP.push (tk:=s.toks) nL
 have hn:s.heap.get? s.heap.objs.size=none:=qy _
 have ho:(s.heap.push (jc vs 0)).get? s.heap.objs.size=some (jc vs 0):=Heap.get?_push_size _ rfl
 have own:Own C [s.heap.objs.size] (s.heap.push (jc vs 0)):=Own.fresh p.gr.tab (fun a ha e=>by
   replace ha:=j4.mp ha;subst ha
   obtain⟨o,ho⟩:=p.hYs C.P p.hP
   rw[<-e,hn] at ho;exact zn ho) (fun b o e=>wW _ e) (fun a ha=>by replace ha:=j4.mp ha;subst ha;exact hn) fun a ha=>by replace ha:=j4.mp ha;subst ha;exact⟨_,ho⟩
 exact⟨kp,hn,ho,own.code _ x9,q5.moreL (J:=[s.heap.objs.size]) kp p.hP (fun a ha=>by replace ha:=j4.mp ha;subst ha;exact hn) (fun a ha=>by
  rcases j0.mp ha with e|h
  ·exact .inl (by simp[e])
  ·exact .inr h) rs⟩
theorem add_inv{x y:D}{ds:List D}(h:wy .Add x y=some (.list ds)):∃xs ys,x= .list xs/\y= .list ys/\xs.length+ys.length<=lim/\ds=xs++ys:=by
 induction x using cD with
 |list xs=>
  induction y using cD with
  |list ys=>
   have h:(if xs.length+ys.length<=lim then some (D.list (xs++ys)) else none)=some (.list ds):=h
   revert h;refine yU (fun _ h=> ?_) fun _ h=> ?_
   ·cases h;exact⟨_,_,rfl,rfl,‹_›,rfl⟩
   ·exact nn h
  |_=>exact nn h
 |int a=>
  induction y using cD with
  |int b=>exact nomatch h
  |_=>exact nn h
 |str a=>
  induction y using cD with
  |str b=>
   have h:(if a.length+b.length<=lim then some (D.str (a++b)) else none)=some (.list ds):=h
   revert h;refine yU (fun _ h=> ?_) fun _ h=> ?_
   ·cases h
   ·exact nn h
  |_=>exact nn h
 |_=>exact nn h
theorem SF_step(S:SE C n r):SF C (n+1) ⟨xc C.fns C.glob r,fun k=>vQ r k n⟩:=by
 intro k A env Y l e ds s Q p hf h q
 have p0:=p.mono (Nat.le_succ n)
 induction e using cE with
 |List es pos=>
  refine bE (show (wG r k env.scope l es).bind (fun ds=>if ds.length<=lim then some (D.list ds) else none)=some (.list ds) from h) fun bT h1 g=> ?_
  revert g;refine yU (fun hl g=> ?_) fun _ g=> ?_
  ·cases g
   refine wpAny_List (yM S p0 h1 fun vs s₁ k₁ p₁ r₁=> ?_)
   have hlen:=r₁.length
   refine fS (jBg p₁ r₁) fun kp hn ho hc rs=> ?_
   exact⟨by rw[hlen];exact sz hl,q _ vs _ (k₁.trans kp) (xX k₁.kw p.gr.tab (Z:=fun _=>False) hn) ho hc rs⟩
  ·exact nn g
 |BinOp a op b pos=>
  induction op using cP with
  |Add=>
   refine bE (show ((r.E k env.scope l a).bind fun x=>(r.E k env.scope l b).bind fun y=>wy .Add x y)=some (.list ds) from h) fun x h1 g1=> ?_
   refine bE g1 fun y h2 g2=> ?_
   refine uf (add_inv g2) ?_;rintro xs ys rfl rfl hl rfl
   refine jG3 (S.at p0 h1 fun v s1 k1 p1 r1=>S.at p1 h2 fun u s2 k2 p2 r2=> ?_)
   refine jj ((r1.kp k2 p.hP).list_inv) ?_;rintro a1 vs n1 rfl o1 t1
   refine jj r2.list_inv ?_;rintro a2 ws n2 rfl o2 t2
   have l1:=t1.length
   have l2:=t2.length
   refine fS (jBg p2 (t1.append t2)) fun kp hn ho hc rs=> ?_
   have hk:=xX (k1.trans k2).kw p.gr.tab (Z:=fun _=>False) hn
   refine P.add_list (jM o1).1 (jM o2).1 ?_ (by simp only[List.size_toArray];exact sz (by lia))
   rw[List.append_toArray]
   exact q _ (vs++ws) _ ((k1.trans k2).trans kp) hk ho hc rs
  |_=>exact ff hf
 |_=>exact ff hf
theorem SE_step{fns:List (Str×Fn)}(bs:Base C)(S:wt C n r):SE C (n+1) ⟨xc C.fns C.glob r,fun k=>vQ r k n⟩:=by
 intro k A env Y l e d s Q a eo gr hP hY hYs fm hc loc h q
 have p:Pre C (n+1) k A env Y l s:=⟨bs,a,eo,gr,hP,hY,hYs,fm,hc,loc⟩
 have p0:=p.mono (Nat.le_succ n)
 replace q:Kq C Y d s Q:=q
 replace h:xc C.fns C.glob r k env.scope l e=some d:=h
 induction e using cE with
 |Constant c kd pos=>
  induction c using cC with
  |none=>(replace h:=j6 h;subst h);exact E_none q
  |bool b=>(replace h:=j6 h;subst h);exact E_bool q
  |int i=>(replace h:=j6 h;subst h);exact rU q
  |str x=>(replace h:=j6 h;subst h);exact pX q
  |_=>exact nn h
 |Name x pos=>exact jFp p0 h q
 |BinOp a op b pos=>exact jE9 S.E p0 h q
 |UnaryOp op e1 pos=>
  induction op using cU with
  |USub=>
   induction e1 using cE with
   |Constant c kd p1=>
    induction c using cC with
    |int i=>(replace h:=j6 h;subst h);exact jEn q
    |_=>exact nn h
   |_=>exact nn h
  |_=>exact nn h
 |IfExp t a b pos=>exact jE4 S.E p.a p0 h q
 |List es pos=>exact jFs S.E p0 h q
 |Tuple es kd pos=>exact jEo S.E p0 h q
 |ListComp elt gens jS pos=>exact jBw S.E p.a p0 h q
 |DictComp ke ve gens jS pos=>exact jBy S.E p.a p0 h q
 |Compare a ops bs pos=>
  induction ops using cL with
  |nil=>exact nn h
  |cons op ops=>
   induction ops using cL with
   |cons _ _=>exact nn h
   |nil=>
    induction bs using cL with
    |nil=>exact nn h
    |cons b bs=>
     induction bs using cL with
     |nil=>exact jB7 S.E p.a p0 h q
     |cons _ _=>exact nn h
 |Subscript v e pos=>exact jAz S.E p0 h q
 |Call f args cx cp=>
  induction f using cE with
  |Name f np=>
   induction cx using cL with
   |nil=>exact jE6 (fns:=C.fns) S p h q
   |cons _ _=>exact nn h
  |Attribute o m ap=>
   induction cx using cL with
   |nil=>exact jC9 S.E p.a p0 h q
   |cons _ _=>exact nn h
  |_=>exact nn h
 |_=>exact nn h
theorem o6(bs:Base C):∀n m,m<=n->wt C m (ev C.fns C.glob m)
 |0,m,hm=>by
  have:m=0:=by lia
  subst this
  constructor
  ·intro k A env Y l e d s Q _ _ _ _ _ _ _ _ _ h _;cases h
  ·intro k A env Y W l e d y py s Q _ _ _ _ _ _ h _;cases h
  ·intro k A env Y l e ds s Q _ _ h _;cases h
  ·intro k A env Y OL l st f l' s Q E _ h _;cases h
 |n+1,m,hm=>by
  have ih:=o6 bs n
  by_cases h:m<=n
  ·exact ih m h
  ·have:m=n+1:=by lia
   subst this
   have S:=ih n (Nat.le_refl n)
   exact⟨SE_step (fns:=C.fns) bs S,SU_step S.E,SF_step S.E,SS_step ih⟩
structure wK(C:Cx)(xC xE:Addr):Prop where
 mR:C.mg "error_reply"=some (.ref xC)
 mP:C.mg "error_proto"=some (.ref xE)
 ne:xC≠xE
 ty:∀(M:Model),∀c∈[xC,xE],Looks M C.g0 (isInstance (.ref c) (.type "tuple")) false/\Looks M C.g0 (isExcClass (.ref c)) true
 sub:∀(M:Model),∀c∈[xC,xE],∀c'∈[xC,xE],Looks M C.g0 (isSubtype (.ref c) (.ref c')) (decide (c=c'))
 base:∀(M:Model),∀c∈[xC,xE],Looks M C.g0 (isSubtype (.ref c) (.type "BaseException")) true
 str:∀(M:Model),∀c∈[xC,xE],Looks M C.g0 (typeLookup (.ref c) "__str__") (some (.builtin "BaseException.__str__"))
abbrev Kept(C:Cx)(h:Heap):Prop:=∀b o,C.g0.get? b=some o->h.get? b=some o
variable{prog:Program}{w:World}{E:q4}{xC xE:Addr}
theorem gk{M:Model}{e cl:Addr}{oe:Obj}(he:s.heap.get? e=some oe)(hc:oe.cls= .ref cl):Looks M s.heap (typeOf (.ref e)) (.ref cl):=by
 intro A Q E s' k q
 unfold typeOf
 refine wpAny_bind (wpAny_loadPart (k _ _ he) ?_)
 rw[hc]
 exact wpAny_pure q
theorem jAx{M:Model}(X:wK C xC xE)(g:Kept C s.heap){e c c':Addr}{oe:Obj}{Q:Bool->Shared->Prop}(he:s.heap.get? e=some oe)(hc:oe.cls= .ref c)(h1:c∈[xC,xE])(h2:c'∈[xC,xE])(q:Q (decide (c=c')) s):
  wpAny M A (excMatches (.ref e) (.ref c')) Q E s:=by
 have L0:=(X.ty M c' h2).1.keeps g
 have e1:=(X.ty M c' h2).2.keeps g
 have S1:=(X.sub M c h1 c' h2).keeps g
 have LT:=gk (M:=M) he hc
 obtain⟨hh,gg,d,tk,os⟩:=s
 have hk:∀b o,hh.get? b=some o->hh.get? b=some o:=fun _ _ e=>e
 unfold excMatches
 refine wpAny_bind (L0.at ?_)
 dsimp only
 rw[if_neg Bool.false_ne_true]
 cases hb:decide (c=c') <;> rw[hb] at q S1 <;> ((repeat (first|simp only[List.forIn_cons,List.forIn_nil,Bool.not_true,Bool.false_eq_true,if_false,if_true]|lk));exact q)
theorem jEr{M:Model}(X:wK C xC xE)(g:Kept C s.heap){e c:Addr}{oe:Obj}{Q:Option Value->Shared->Prop}(he:s.heap.get? e=some oe)(hc:oe.cls= .ref c)(h1:c∈[xC,xE])
  (h:wpAny M A (call (.builtin "BaseException.__str__") [.ref e]) (fun v=>Q (some v)) E s):wpAny M A (callSpecial? (.ref e) "__str__") Q E s:=
 wpAny_bind (wpAny_bind ((gk (M:=M) he hc).here (((X.str M c h1).keeps g).here (wpAny_holding (wpAny_bind ((Looks.of_pure (F.excStr_Exception.str.bind _)).here (wpAny_bind (wpAny_mono h (fun _ _ z=>wpAny_pure z) fun _ _ z=>z))))))))
open Builtin Builtin.BaseException in
theorem jJz(X:wK C xC xE)(g:Kept C s.heap){e c t:Addr}{oe ot:Obj}{vs:Array Value}{m:Str}{tk:Tok}(he:s.heap.get? e=some oe)(hc:oe.cls= .ref c)(hd:oe.data= .fields vs)(h0:vs[0]? =some (.ref t))(h1:c∈[xC,xE])
  (ht:s.heap.get? t=some { cls:= .type "tuple",data:= .seq #[.str m tk] }) (q:Q (.str m tk) s):wpAny (model prog w) A (call (.builtin "BaseException.__str__") [.ref e]) Q E s:=by
 have hi:Looks (model prog w) s.heap (isInstance (.ref e) (.type "BaseException")) true:=(gk (M:=model prog w) he hc).andThen ((X.base (model prog w) c h1).keeps g)
 refine wpAny_call (codeAny_call_builtin F.excStr_Exception.str.plain F.entry_bexc_str (check_slot (i:="BaseException.__str__") (owner:="BaseException") (n:="__str__") (by decide+kernel) (by decide+kernel) hi (F.args_bexc_str _) ?_))
 unfold Builtin.«BaseException.__str__»
 have hb:∀{Q:Value×List Value->Shared->Prop},Q (.ref t,[.str m tk]) s->wpAny (model prog w) A.in1 (bexcArgs (.ref e)) Q (fun e s'=>E e s') s:=fun hq=>by
  unfold bexcArgs
  refine wpAny_bind (wpAny_field he hd h0 (wpAny_bind (wpAny_seqItems ht rfl ?_)))
  exact wpAny_pure hq
 repeat (first|with_reducible refine hb ?_|wp_step)
 exact q
open Builtin Builtin.Str in
theorem jHb(X:wK C xC xE)(g:Kept C s.heap)(hu:A.units<cLine){e c t:Addr}{oe:Obj}{vs:Array Value}{m:Str}{tk:Tok}(he:s.heap.get? e=some oe)(hc:oe.cls= .ref c)(hd:oe.data= .fields vs)(h0:vs[0]? =some (.ref t))(h1:c∈[xC,xE])
  (ht:s.heap.get? t=some { cls:= .type "tuple",data:= .seq #[.str m tk] }) (q:Q (.str m tk) s):wpAny (model prog w) A (Builtin.Str.strOf (.ref e)) Q E s:=by
 unfold Builtin.Str.strOf
 repeat (first|with_reducible refine wpAny_cRoomFor hu ?_|with_reducible refine jEr X g he hc h1 (jJz (ot:={ cls:= .none }) X g he hc hd h0 h1 ht ?_)|wp_step)
 exact q
theorem jDh(X:wK C xC xE)(g:Kept C s.heap)(hu:A.units+2<cLine){e c t tb:Addr}{m:Str}{tk:Tok}(he:s.heap.get? e=some { cls:= .ref c,data:= .fields #[.ref t,.ref tb,.none,.none,.bool false,.none] })
  (ht:s.heap.get? t=some { cls:= .type "tuple",data:= .seq #[.str m tk] }) (h1:c∈[xC,xE]) (h:Q (.str m tk) s):wpAny (model prog w) A (call (.type "str") [.ref e]) Q E s:=
 callType_new F.called_str kD (F.typeCall_str_1 _) (F.newCall_str_1 _) (fun obj=>F.args_object_init_2 obj _) F.entry_str_new
  (PySem.meets_str_new (S:=fun A' R s'=>A'.units+1<cLine/\Kept C s'.heap/\s'.heap.get? e=some { cls:= .ref c,data:= .fields #[.ref t,.ref tb,.none,.none,.bool false,.none] }/\s'.heap.get? t=some { cls:= .type "tuple",data:= .seq #[.str m tk] }/\R (.ok (.ret (.str m tk))) s')
   fun prog w A' R s' hq=>jHb (A:=A'.in1) X hq.2.1 hq.1 hq.2.2.1 rfl rfl rfl h1 hq.2.2.2.1 hq.2.2.2.2)
  ⟨(show A.units+1+1<cLine from hu),g,he,ht,typeIs_str _ _ _,h⟩
noncomputable abbrev zQ(l:List Env):List Addr:=l.filterMap (·.frame)
def dQ(h:Heap)(l:List Env):Prop:=∀x∈l,x.scope.kind≠.module/\∃L m,x.frame=some L/\h.Ns L m
theorem jDz{h h':Heap}{b:Addr}{m:Str->Option Value}(k:∀o,h.get? b=some o->∃sl,h'.get? b=some { o with slots:=sl })(n:h.Ns b m):h'.Ns b m:=by
 refine jj n fun o es ep ho hd hk=> ?_;clear n
 obtain⟨sl,e⟩:=k o ho
 exact⟨_,es,ep,e,hd,hk⟩
theorem dQ.slots{h h':Heap}{l:List Env}(f:dQ h l)(k:∀b m,h.Ns b m->h'.Ns b m):dQ h' l:=fun x hx=>by
 obtain⟨h1,L,m,h2,h3⟩:=f x hx
 exact⟨h1,L,m,h2,k L m h3⟩
theorem dQ.fun{h:Heap}:∀{l:List Env},dQ h l->h.FunFrames { objs:= #[] } l
 |[],_=>trivial
 |x::l,f=>by
  obtain⟨h1,L,m,h2,o,es,ep,ho,hd,hk⟩:=f x jk
  exact⟨h1,⟨L,o,h2,by simp[Heap.get?],ho,fun vs e=>by rw[hd] at e;cases e⟩,dQ.fun fun y hy=>f y (qO _ hy)⟩
theorem dQ.mem{h:Heap}{l:List Env}(f:dQ h l){b:Addr}(hb:b∈zQ l):∃m,h.Ns b m:=by
 refine jH (List.mem_filterMap.mp hb) fun x hx e=> ?_
 obtain⟨h1,L,m,h2,h3⟩:=f x hx
 rw[h2] at e;replace e:=j6 e;subst e
 exact⟨m,h3⟩
theorem qh{h:Heap}{b c:Addr}{m:Str->Option Value}{o:Obj}{vs:Array Value}(n:h.Ns b m)(ho:h.get? c=some o)(hd:o.data= .fields vs):b≠c:=by
 rintro rfl
 refine jj n fun o' es ep ho' yP _=> ?_;clear n
 rw[ho] at ho';replace ho':=j6 ho';subst ho';rw[hd] at yP;cases yP
theorem hnone{H:HV}{c:Addr}(x:¬∃o,H c=some o):H c=none:=by
 generalize e:H c=x0;induction x0 using cO with
 |none=>rfl
 |some o=>exact absurd ⟨o,e⟩ x
variable{M:Model}
theorem jBj{outer:List Env}{L e:Addr}{oe:Obj}{vs:Array Value}{head:Value}{hadNext:Bool}{Q:Unit->Shared->Prop}
  (kM:A.frames=some (env::outer)) (hl:dQ s.heap (env::outer)) (hf:env.frame=some L)
  (he:s.heap.get? e=some oe) (hd:oe.data= .fields vs) (dE:1<vs.size)
  (h:∀h' tb,(∀b o,b∉zQ (env::outer)->b≠e->s.heap.get? b=some o->h'.get? b=some o)->(∀b o,b≠e->s.heap.get? b=some o->∃sl,h'.get? b=some { o with slots:=sl })->s.heap.get? tb=none->
   h'.get? e=some (oe.mapFields (·.setIfInBounds 1 (.ref tb)))->(∃mK tH,h'.get? tb=some mK/\mK.data= .fields tH/\3<tH.size/\tH[3]? =some (rawInt L))->tb≠e->Q () { s with heap:=h' }):
  wpAny M A (do let a<-frameOf env;let pl<-entryPlaceOf L hadNext;let b<-EntryCells.newEntry head a .none (rawInt L) .none pl;setField (.ref e) 1 b) Q E s:=by
 have hene:e∉zQ (env::outer):=fun hm=>by
  obtain⟨m,hn⟩:=hl.mem hm
  exact qh hn he hd rfl
 refine wpAny_bind (wpAny_frameOf_fun kM hl.fun hf fun h₁ hs₁=> ?_)
 refine wpAny_bind (wpAny_entryPlaceOf fun pl hpl=> ?_)
 unfold EntryCells.newEntry newFields
 refine wpAny_bind (wpAny_newObj_type ?_ (hpl.sizeOk5 _ _ _ _ _))
 have he₁:h₁.get? e=some oe:=(hs₁.2.1 e hene).trans he
 have he₂:=wW (h:=h₁) { cls:= .type "traceback",dict:=none,data:= .fields ([head,.ref L,.none,rawInt L,.none]++(if pl.isEmpty then List.replicate 6 Value.none else pl)).toArray } he₁
 refine wpAny_setField he₂ hd dE ?_
 have hTe:h₁.objs.size≠e:=Nat.ne_of_gt (Heap.lt_size he₁)
 have hd₃:=Obj.data_mapFields hd (·.setIfInBounds 1 (Value.ref h₁.objs.size))
 have he₃:=Heap.get?_update_self (Obj.mapFields (·.setIfInBounds 1 (Value.ref h₁.objs.size))) he₂ (Obj.isFreed_of_fields hd₃)
 have hT₃:=(Heap.get?_update_other (h₁.push { cls:= .type "traceback",dict:=none,data:= .fields ([head,.ref L,.none,rawInt L,.none]++(if pl.isEmpty then List.replicate 6 Value.none else pl)).toArray })
  (Obj.mapFields (·.setIfInBounds 1 (Value.ref h₁.objs.size))) (Ne.symm hTe)).trans (Heap.get?_push_size h₁ rfl)
 have keep:∀b o,b≠e->h₁.get? b=some o->
   ((h₁.push { cls:= .type "traceback",dict:=none,data:= .fields ([head,.ref L,.none,rawInt L,.none]++(if pl.isEmpty then List.replicate 6 Value.none else pl)).toArray }).update e (Obj.mapFields (·.setIfInBounds 1 (Value.ref h₁.objs.size)))).get? b=some o:=fun b o rY hb=>by
  rw[Heap.get?_update_other _ _ (Ne.symm rY)]
  exact wW _ hb
 refine h _ h₁.objs.size (fun b o hbf rY hb=>keep b o rY ((hs₁.2.1 b hbf).trans hb)) (fun b o rY hb=> ?_) (Heap.get?_none_of_le (by rw[hs₁.1];exact Nat.le_refl _)) he₃ ⟨_,_,hT₃,rfl,?_,by simp⟩ hTe
 ·obtain⟨sl,bC⟩:=hs₁.2.2 b o hb
  exact⟨sl,keep b _ rY bC⟩
 ·simp only[List.size_toArray,List.length_append,List.length_cons,List.length_nil] <;> simp+arith only
structure sY(h0:HV)(fr:List Addr)(e t cl:Addr)(v hd fl:Value)(h:Heap):Prop where
 old:∀b o,b∉fr->h0 b=some o->h.get? b=some o
 sl:∀b o,h0 b=some o->∃sl,h.get? b=some { o with slots:=sl }
 ne:h0 e=none
 nt:h0 t=none
 he:h.get? e=some { cls:= .ref cl,data:= .fields #[.ref t,hd,.none,.none,.bool false,.none] }
 ht:h.get? t=some { cls:= .type "tuple",data:= .seq #[v] }
 hd:(hd= .none)\/∃tb mK tH,hd= .ref tb/\tb≠e/\h0 tb=none/\h.get? tb=some mK/\mK.data= .fields tH/\3<tH.size/\tH[3]? =some fl
theorem jD0{outer:List Env}{L e t cl:Addr}{h0:HV}{fr:List Addr}{v hd:Value}{Q:Unit->Shared->Prop}
  (kM:A.frames=some (env::outer)) (hl:dQ s.heap (env::outer)) (hf:env.frame=some L) (F:sY h0 fr e t cl v hd .none s.heap) (qQ:∀b∈zQ (env::outer),b∈fr\/h0 b=none)
  (h:∀h' tb,sY h0 fr e t cl v (.ref tb) (rawInt L) h'->(∀b m,s.heap.Ns b m->h'.Ns b m)->Q () { s with heap:=h' }):
  wpAny M A (noteFrame (.ref e) env) Q E s:=by
 obtain⟨old,sl,jv,bG,he,ht,aS⟩:=F
 unfold noteFrame
 simp only[hf]
 refine wpAny_bind (wpAny_field he rfl (x:=hd) rfl ?_)
 rcases aS with rfl|⟨tb,mK,tH,rfl,mh,ml,tB,tO,dE,h3⟩
 ·rw[if_neg kD]
  refine jBj kM hl hf he rfl (by simp) fun h' tb k1 k2 k3 k4 k5 k6=> ?_
  have sD:t≠e:=fun e'=>by rw[e',he] at ht;cases ht
  have iI:t∉zQ (env::outer):=fun hm=>by
   refine oN (hl.mem hm) fun m o es ep ho hd _=> ?_
   rw[ht] at ho;replace ho:=j6 ho;subst ho;cases hd
  refine h h' tb ⟨fun b o hb e'=> ?_,fun b o e'=> ?_,jv,bG,k4,k1 t _ iI sD ht,.inr ?_⟩ fun b m hn=>jDz (fun o ho=>k2 b o (qh hn he rfl) ho) hn
  ·refine k1 b o (fun hm=>(qQ b hm).elim hb fun e2=>by rw[e2] at e';exact zn e') (fun e2=>by rw[e2,jv] at e';exact zn e') (old b o hb e')
  ·obtain⟨s1,e1⟩:=sl b o e'
   obtain⟨s2,e2⟩:=k2 b _ (fun e2=>by rw[e2,jv] at e';exact zn e') e1
   exact⟨s2,e2⟩
  ·refine uf k5 fun mK tH e1 e2 e3 e4=> ?_;clear k5
   exact⟨tb,mK,tH,rfl,k6,hnone (fun⟨o,ho⟩=>(by obtain⟨s1,e5⟩:=sl _ o ho;rw[k3] at e5;exact zn e5)),e1,e2,e3,e4⟩
 ·rw[if_pos (show (Value.ref tb !=Value.none)=true from by simp)]
  refine wpAny_bind (wpAny_field tB tO h3 ?_)
  rw[if_neg (show¬((Value.none==rawInt L)=true) from by simp[rawInt])]
  refine wpAny_bind (wpAny_setField tB tO dE ?_)
  have yP:=Obj.data_mapFields tO (·.setIfInBounds 3 Value.none)
  have rW:∀b,b≠tb->(s.heap.update tb (Obj.mapFields (·.setIfInBounds 3 Value.none))).get? b=s.heap.get? b:=fun b hb=>Heap.get?_update_other _ _ (Ne.symm hb)
  have hns:∀b m,s.heap.Ns b m->(s.heap.update tb (Obj.mapFields (·.setIfInBounds 3 Value.none))).Ns b m:=fun b m hn=>hn.at fun o ho=>(rW b (qh hn tB tO)).trans ho
  have sD:t≠e:=fun e'=>by rw[e',he] at ht;cases ht
  have htt:t≠tb:=fun e'=>by rw[e',tB] at ht;replace ht:=j6 ht;subst ht;cases tO
  have iI:t∉zQ (env::outer):=fun hm=>by
   refine oN (hl.mem hm) fun m o es ep ho hd _=> ?_
   rw[ht] at ho;replace ho:=j6 ho;subst ho;cases hd
  refine jBj kM (hl.slots hns) hf ((rW e (Ne.symm mh)).trans he) rfl (by simp) fun h' mG k1 k2 k3 k4 k5 k6=> ?_
  have ob:∀b o,h0 b=some o->b≠tb:=fun b o e' e2=>by rw[e2,ml] at e';exact zn e'
  have obe:∀b o,h0 b=some o->b≠e:=fun b o e' e2=>by rw[e2,jv] at e';exact zn e'
  refine h h' mG ⟨fun b o hb e'=> ?_,fun b o e'=> ?_,jv,bG,k4,k1 t _ iI sD ((rW t htt).trans ht),.inr ?_⟩ fun b m hn=>jDz (fun o ho=>k2 b o (qh hn he rfl) ((rW b (qh hn tB tO)).trans ho)) hn
  ·refine k1 b o (fun hm=>(qQ b hm).elim hb fun e2=>by rw[e2] at e';exact zn e') (obe b o e') ((rW b (ob b o e')).trans (old b o hb e'))
  ·obtain⟨s1,e1⟩:=sl b o e'
   obtain⟨s2,e2⟩:=k2 b _ (obe b o e') ((rW b (ob b o e')).trans e1)
   exact⟨s2,e2⟩
  ·refine uf k5 fun otb' tvs' e1 e2 e3 e4=> ?_;clear k5
   refine⟨mG,otb',tvs',rfl,k6,hnone fun⟨o,ho⟩=> ?_,e1,e2,e3,e4⟩
   obtain⟨s1,e5⟩:=sl _ o ho
   rw[<-rW _ (ob _ o ho),k3] at e5;exact zn e5
theorem jBi{e t cl tb:Addr}{h0:HV}{fr:List Addr}{v fl:Value}{Q:Unit->Shared->Prop}(F:sY h0 fr e t cl v (.ref tb) fl s.heap)
  (h:∀h',sY h0 fr e t cl v (.ref tb) .none h'->(∀b m,s.heap.Ns b m->h'.Ns b m)->Q () { s with heap:=h' }):wpAny M A (setFlight (.ref e) none) Q E s:=by
 obtain⟨old,sl,jv,bG,he,ht,aS⟩:=F
 rcases aS with aS|⟨tb',mK,tH,hh,mh,ml,tB,tO,dE,h3⟩
 ·cases aS
 ·cases hh
  unfold setFlight
  refine wpAny_bind (wpAny_field he rfl (x:= .ref tb) rfl ?_)
  rw[if_pos (show (Value.ref tb !=Value.none)=true from by simp)]
  have yP:=Obj.data_mapFields tO (·.setIfInBounds 3 Value.none)
  have rW:∀b,b≠tb->(s.heap.update tb (Obj.mapFields (·.setIfInBounds 3 Value.none))).get? b=s.heap.get? b:=fun b hb=>Heap.get?_update_other _ _ (Ne.symm hb)
  have ob:∀b o,h0 b=some o->b≠tb:=fun b o e' e2=>by rw[e2,ml] at e';exact zn e'
  refine wpAny_setField tB tO dE (h _ ⟨fun b o hb e'=>(rW b (ob b o e')).trans (old b o hb e'),fun b o e'=> ?_,jv,bG,(rW e (Ne.symm mh)).trans he,?_,.inr ⟨tb,_,_,rfl,mh,ml,Heap.get?_update_self _ tB (Obj.isFreed_of_fields yP),yP,by simpa using dE,by simp[dE]⟩⟩ fun b m hn=>hn.at fun o ho=>(rW b (qh hn tB tO)).trans ho)
  ·obtain⟨s1,e1⟩:=sl b o e'
   exact⟨s1,(rW b (ob b o e')).trans e1⟩
  ·refine(rW t fun e'=> ?_).trans ht
   rw[e',tB] at ht;replace ht:=j6 ht;subst ht;cases tO
end
section
variable{C:Cx}{n:Nat}{r:Ev}{k:Bool}{A:Around}{env:Env}{Y Y' W J:List Addr}{OL N:yV}{l l':jQ}{s s' gS s1 s2:Shared}{Z Z':Addr->Prop}
theorem jEp{h:Heap}(t:jl C h){a:Addr}{m:Str->Option Value}(n:h.Ns a m):¬jx C h a:=fun hc=>by
 obtain⟨ps,h1,h2,h3⟩:=t
 refine qU hc fun tA pos e1 e2=> ?_;clear hc
 rw[h1] at e1;cases e1
 refine ud (h3 pos _ e2) fun c o vs t rfl' ho hd _=> ?_
 cases rfl'
 exact qh n ho hd rfl
structure zp(C:Cx)(s:Shared)(fr:List Addr)(e t cl:Addr)(v hd fl:Value)(s':Shared):Prop where
 ex:∃(H0:HV) (mC:List Addr),sY H0 mC e t cl v hd fl s'.heap/\(∀b o,b≠C.P->s.heap.get? b=some o->H0 b=some o)/\
  (∀h',(∀b o,b∉mC->H0 b=some o->h'.get? b=some o)->qX C s.heap h')/\(∀b∈mC,b∈fr\/s.heap.get? b=none)/\(∀b∈fr,b∈mC)
 st:∃tk,s'={ s with heap:=s'.heap,toks:=tk }/\s.toks<=tk
 nw:s.heap.get? e=none/\s.heap.get? t=none
theorem zp.kw{fr:List Addr}{e t cl:Addr}{v hd fl:Value}(F:zp C s fr e t cl v hd fl s'):KW C (·∈fr) s s':=by
 obtain⟨⟨H0,mC,F1,h1,h2,h3,h4⟩,⟨tk,e1,e2⟩,nw⟩:=F
 exact⟨s'.heap,tk,e1,e2,fun b o hP hb e=>F1.old b o (fun hm=>(h3 b hm).elim hb fun e'=>by rw[e'] at e;exact zn e) (h1 b o hP e),fun b hP ⟨o,e⟩=>by
  obtain⟨sl,e'⟩:=F1.sl b o (h1 b o hP e)
  exact⟨_,e'⟩,h2 _ F1.old⟩
theorem zp.note{outer:List Env}{L e t cl:Addr}{fr:List Addr}{v hd:Value}{Q:Unit->Shared->Prop}{E:q4}(F:zp C s fr e t cl v hd .none s')
  (kM:A.frames=some (env::outer)) (hl:dQ s'.heap (env::outer)) (hf:env.frame=some L) (qQ:∀b∈zQ (env::outer),b∈fr)
  (h:∀h' tb,zp C s fr e t cl v (.ref tb) (rawInt L) { s' with heap:=h' }->(∀b m,s'.heap.Ns b m->h'.Ns b m)->Q () { s' with heap:=h' }):
  wpAny C.M A (noteFrame (.ref e) env) Q E s':=by
 obtain⟨⟨H0,mC,F1,h1,h2,h3,h4⟩,⟨tk,e1,e2⟩,nw⟩:=F
 refine jD0 kM hl hf F1 (fun b hb=> .inl (h4 b (qQ b hb))) fun h' tb F2 k=>h h' tb ⟨⟨H0,mC,F2,h1,h2,h3,h4⟩,⟨tk,?_,e2⟩,nw⟩ k
 rw[e1]
theorem zp.flight{e t cl tb:Addr}{fr:List Addr}{v fl:Value}{Q:Unit->Shared->Prop}{E:q4}(F:zp C s fr e t cl v (.ref tb) fl s')
  (h:∀h',zp C s fr e t cl v (.ref tb) .none { s' with heap:=h' }->(∀b m,s'.heap.Ns b m->h'.Ns b m)->Q () { s' with heap:=h' }):
  wpAny C.M A (setFlight (.ref e) none) Q E s':=by
 obtain⟨⟨H0,mC,F1,h1,h2,h3,h4⟩,⟨tk,e1,e2⟩,nw⟩:=F
 refine jBi F1 fun h' F2 k=>h h' ⟨⟨H0,mC,F2,h1,h2,h3,h4⟩,⟨tk,?_,e2⟩,nw⟩ k
 rw[e1]
theorem wm(S:SS C n r){f:Str}{fn:Fn}{a:Addr}{as:List D}{vs:List Value}{c x:Str}{l0:jQ}{outer:List Env}{Q E:q4}(hf:C.fns.lookup f=some fn)(hm:C.mg f=some (.ref a))(bs:Base C)(g:Gr C s)(hP:C.P∈Y)(hY:∀a∈Y,C.g0.get? a=none)(hYs:∀a∈Y,∃o,s.heap.get? a=some o)
  (hA:yA n A) (kM:A.frames=some outer) (fl:dQ s.heap outer) (hb:y5 fn.names as=some l0) (hs:qV r false fn.scope l0 fn.body=some (.exc c (.str x),l')) (hr:q5 C s.heap Y vs as)
  (q:∀e t cl tb tk s',zp C s (zQ outer) e t cl (.str x tk) (.ref tb) .none s'->C.mg c=some (.ref cl)->(∀b m,s.heap.Ns b m->s'.heap.Ns b m)->E (.ref e) s'):
  wpAny C.M A (call (.ref a) vs) Q E s:=by
 have ok:=vr (bs.okf f fn hf)
 refine fR (bs.fn f fn hf) fun a' o pm code doc rX ho hd hc=> ?_
 rw[hm] at rX;cases rX
 have tj:=hA.depth
 have hlen:fn.names.length=vs.length:=(wA hb).trans hr.length.symm
 refine wpAny_call (codeAny_call_function (fd:=docDef f fn.params fn.body fn.scope pm code doc) (body:=fn.body) (by have:recursionLimit=1000:=rfl;lia) (g.keep _ _ ho) hd ok.co ok.gen rfl (hc.keeps g.keep) ?_)
 rw[qc ok.plain rfl (by refine(?_:fn.params.args.length=vs.length);simpa [Fn.names] using hlen)]
 refine wpAny_pure (ne ?_)
 refine za (k:=false) (n:=n) (A:=A) ok bs g hP hY hYs (fun env=>hA.deeper) hb hr (fun h=>by exact zf h) fun env s1 kp fs hn _ qJ uq=>⟨bs.nolimit.keeps (g.kp bs kp).keep,codeAny_func ?_⟩
 refine xY S fn.body [] l0 l' (.exc c (.str x)) s1 _ _ fs (by rw[qJ];exact hs) fun e t cl v s2 kw he xq aN ht nT rd hns=> ?_
 obtain⟨tk,rfl⟩:∃tk,v= .str x tk:=by cases rd;exact⟨_,rfl⟩
 have new:∀b,ZO [] env b->s.heap.get? b=none:=fun b hb=>hn b (by exact hb)
 have t0:=g.tab
 have old:∀b o,b≠C.P->s.heap.get? b=some o->s2.heap.get? b=some o:=fun b o bM e=>kw.heap bM (fun hz=>by rw[new b hz] at e;exact zn e) (kp.heap bM e)
 have rp:∀b m,s.heap.Ns b m->s2.heap.Ns b m:=fun b m h=>h.at fun o e=>old b o (jg t0 h) e
 have cx:KW C (fun _=>False) s s2:=(KP.kw kp (Z:=fun _=>False)).transNew kw fun b hb=> .inr (new b hb)
 have yf:KP C s s2:=KP.of_kw cx
 have lZ:s.heap.get? e=none:=xX kp.kw t0 he (Z:=fun _=>False)
 have iH:s.heap.get? t=none:=xX kp.kw t0 ht (Z:=fun _=>False)
 have fl2:dQ s2.heap (env::outer):=fun x hx=>by
  rcases j0.mp hx with rfl|hx
  ·obtain⟨m,hm⟩:=hns
   exact⟨by rw[fs.pre.eo.kind];decide,_,m,uq,hm⟩
  ·exact(fl.slots rp) x hx
 have t2:=yf.tab t0
 have sD:t≠e:=fun e'=>by rw[e',aN] at nT;cases nT
 obtain⟨H0,F1,g1,g2⟩:∃H0:HV,sY H0 (zQ (env::outer)) e t cl (.str x tk) .none .none s2.heap/\(∀b o,b≠C.P->s.heap.get? b=some o->H0 b=some o)/\
  (∀h',(∀b o,b∉zQ (env::outer)->H0 b=some o->h'.get? b=some o)->qX C s.heap h'):=by
  refine vM (fun b=>if b=e\/b=t then none else s2.heap.get? b) ⟨fun b o _ e0=> ?_,fun b o e0=> ?_,if_pos (.inl rfl),if_pos (.inr rfl),aN,nT,.inl rfl⟩ (fun b o kU e=> ?_) (fun h' k=> ?_)
  ·change (if b=e\/b=t then none else s2.heap.get? b)=some o at e0
   revert e0;refine tN fun _ e0=> ?_
   ·exact e0
  ·change (if b=e\/b=t then none else s2.heap.get? b)=some o at e0
   revert e0;refine tN fun _ e0=> ?_
   ·exact⟨o.slots,e0⟩
  ·dsimp only
   rw[if_neg]
   ·exact old b o kU e
   ·rintro (h|h)
    ·rw[h,lZ] at e;exact zn e
    ·rw[h,iH] at e;exact zn e
  ·refine qX.trans yf.tabTo (fun x=> ?_) fun t b h=>yf.some t h
   have x':=x
   obtain⟨ps,p1,p2,p3⟩:=x
   have kk:∀b o,s2.heap.get? b=some o->(b=C.P\/jx C s2.heap b)->h'.get? b=some o:=fun b o ho hb=>by
    refine k b o (fun hm=> ?_) ?_
    ·obtain⟨m,hn⟩:=fl2.mem hm
     rcases hb with hb|hb
     ·exact jg x' hn hb
     ·exact jEp x' hn hb
    ·dsimp only
     rw[if_neg]
     ·exact ho
     ·rintro (h|h)
      ·subst h
       rcases hb with hb|⟨tA,pos,q1,q2⟩
       ·rw[hb,p1] at aN;cases aN
       ·rw[p1] at q1;cases q1
        refine ud (p3 pos _ q2) fun c' o' dI t' h5 h6 h7 h8=> ?_
        cases h5
        rw[aN] at h6;replace h6:=j6 h6;subst h6
        cases h7;cases h8
      ·subst h
       rcases hb with hb|⟨tA,pos,q1,q2⟩
       ·rw[hb,p1] at nT;cases nT
       ·rw[p1] at q1;cases q1
        refine ud (p3 pos _ q2) fun c' o' dI t' h5 h6 h7 h8=> ?_
        cases h5
        rw[nT] at h6;replace h6:=j6 h6;subst h6
        cases h7
   have h1':=kk _ _ p1 (.inl rfl)
   refine⟨⟨ps,h1',p2,fun pos cv e=> ?_⟩,fun c hc=> ?_⟩
   ·refine oN (p3 pos cv e) ?_;rintro c o vs t rfl ho hd
    exact⟨c,o,vs,t,rfl,kk _ _ ho (.inr ⟨ps,pos,p1,e⟩),hd⟩
   ·refine qU hc fun tA pos e1 e2=> ?_;clear hc
    rw[h1'] at e1;cases e1
    exact .inl ⟨ps,pos,p1,e2⟩
 obtain⟨h2,tk2,e2,aG,_⟩:=yf
 unfold leaving
 refine wpAny_bind (jD0 (Around.frames_deeper kM) fl2 uq F1 (fun b hb=> .inl hb) fun h3 tb F2 k3=> ?_)
 refine jBi (s:={ s2 with heap:=h3 }) F2 fun h4 F3 k4=> ?_
 refine q e t cl tb tk _ ⟨⟨H0,_,F3,g1,g2,fun b hb=> ?_,fun b hb=> ?_⟩,⟨tk2,by rw[e2],aG⟩,lZ,iH⟩ xq fun b m h=>k4 b m (k3 b m (rp b m h))
 ·rw[zQ,List.filterMap_cons,uq] at hb
  rcases j0.mp hb with rfl|hb
  ·exact .inr (hn _ jk)
  ·exact .inl hb
 ·rw[zQ,List.filterMap_cons,uq]
  exact qO _ hb
variable{B:Around}
structure Hd(A:Around)(env:Env)(outer:List Env)(Y:List Addr)(h:Heap):Prop where
 fr:A.frames=some (env::outer)
 fl:dQ h (env::outer)
 fY:∀b∈zQ (env::outer),b∈Y
 ef:env.frame=some env.locals
theorem Hd.ns{outer:List Env}{h h':Heap}(H:Hd A env outer Y h)(k:∀b m,h.Ns b m->h'.Ns b m):Hd A env outer Y h':=⟨H.fr,H.fl.slots k,H.fY,H.ef⟩
theorem FS.fly{outer:List Env}{e t cl:Addr}{v hd fl:Value}(fs:FS C n k A env Y [] l s)(H:Hd A env outer Y s.heap)(F:zp C s (zQ (env::outer)) e t cl v hd fl s1)(hns:∀b m,s.heap.Ns b m->s1.heap.Ns b m):FS C n k A env Y [] l s1:=by
 refine fs.out' F.kw H.fY (fun _=>hns env.locals) fun p hp hm=> ?_
 refine oN (H.fl.mem hm) fun m o es ep ho hd _=> ?_
 refine qU (fs.pre.fm.cl p hp) fun u o' ho' yP=> ?_
 rw[ho] at ho';replace ho':=j6 ho';subst ho';rw[hd] at yP;cases yP
theorem fq{outer:List Env}{e t cl tb:Addr}{v:Value}{hs:List ExceptHandler}{Q:vo}{E:q4}(fs:FS C n k A env Y [] l s)(H:Hd A env outer Y s.heap)
  (F:zp C s (zQ (env::outer)) e t cl v (.ref tb) .none s1) (hns:∀b m,s.heap.Ns b m->s1.heap.Ns b m)
  (h:∀s2 mG,zp C s (zQ (env::outer)) e t cl v (.ref mG) .none s2->(∀b m,s.heap.Ns b m->s2.heap.Ns b m)->FS C n k A env Y [] l s2->Hd A env outer Y s2.heap->wpAny C.M A (handleBy (.ref e) env hs) Q E s2):
  wpAny C.M A (noteFrame (.ref e) env) (fun _ s2=>wpAny C.M A (setFlight (.ref e) none) (fun _ s3=>wpAny C.M A (handleBy (.ref e) env hs) Q E s3) E s2) E s1:=by
 have H1:=H.ns hns
 refine F.note H.fr H1.fl H.ef (fun b hb=>hb) fun h2 mG F2 k2=> ?_
 refine F2.flight fun h3 F3 k3=> ?_
 have kk:∀b m,s.heap.Ns b m->h3.Ns b m:=fun b m x=>k3 b m (k2 b m (hns b m x))
 exact h _ mG F3 kk (fs.fly H F3 kk) (H.ns kk)
theorem zp.at{fr:List Addr}{e t cl:Addr}{v hd fl:Value}(F:zp C s fr e t cl v hd fl s'):s'.heap.get? e=some { cls:= .ref cl,data:= .fields #[.ref t,hd,.none,.none,.bool false,.none] }/\s'.heap.get? t=some { cls:= .type "tuple",data:= .seq #[v] }/\s.heap.get? e=none/\s.heap.get? t=none:=by
 obtain⟨⟨H0,mC,F1,h1,h2,h3,h4⟩,tk,nw⟩:=F
 exact⟨F1.he,F1.ht,nw⟩
theorem zp.setFlight2{e t cl tb:Addr}{fr:List Addr}{v fl:Value}{Q:Unit->Shared->Prop}{E:q4}(F:zp C s fr e t cl v (.ref tb) fl s')
  (h:∀h',zp C s fr e t cl v (.ref tb) .none { s' with heap:=h' }->(∀b m,s'.heap.Ns b m->h'.Ns b m)->Q () { s' with heap:=h' }):
  wpAny C.M B (setFlight (.ref e) none) Q E s':=F.flight h
theorem clause_miss{e t cl xC xE c':Addr}{c:Str}{hd:Value}{nm:Str}{body:List Stmt}{p1 p2:Pos}{rest:List ExceptHandler}{oe:Obj}{Q:vo}{E:q4}(X:wK C xC xE)(fs:FS C n k A env Y OL l s)
  (hk:env.kindOf c=some .globalImplicit) (mU:(c==("__debug__":Str))=false) (hc:C.mg c=some (.ref c')) (he:s.heap.get? e=some oe) (xq:oe.cls= .ref cl) (m1:cl∈[xC,xE]) (m2:c'∈[xC,xE]) (jv:cl≠c')
  (h:wpAny C.M A (handleBy (.ref e) env rest) Q E s):
  wpAny C.M A (handleBy (.ref e) env (.ExceptHandler (some (.Name c p1)) (some nm) body p2::rest)) Q E s:=by
 refine wpAny_handleBy_cons (codeAny_handlers_test (ne (ql fs.pre hk hc mU ?_))) (by intro q;cases q)
 refine jAx X fs.pre.gr.keep he xq m1 m2 ?_
 rw[decide_eq_false jv]
 exact h
theorem clause_hit{e t cl xC xE:Addr}{c:Str}{hd v:Value}{nm:Str}{b0:Stmt}{body:List Stmt}{p1 p2:Pos}{rest:List ExceptHandler}{outer:List Env}{tb:Addr}{Q:vo}{E:q4}(X:wK C xC xE)(fs:FS C n k A env Y [] l s)(H:Hd A env outer Y s.heap)
  (F:zp C s (zQ (env::outer)) e t cl v (.ref tb) .none s1) (hns:∀b m,s.heap.Ns b m->s1.heap.Ns b m)
  (hk:env.kindOf c=some .globalImplicit) (mU:(c==("__debug__":Str))=false) (hc:C.mg c=some (.ref cl)) (m1:cl∈[xC,xE]) (hnm:env.kindOf nm=some .local)
  (h:∀s3,KW C (fun b=>b∈zQ (env::outer)\/b∈jB env) s s3->FS C n k A env Y [] (jA l nm (.val (.opq (.ref e)))) s3->Hd A env outer Y s3.heap->(∀b m,b∉jB env->s.heap.Ns b m->s3.heap.Ns b m)->s3.heap.get? e=some { cls:= .ref cl,data:= .fields #[.ref t,.ref tb,.none,.none,.bool false,.none] }->s3.heap.get? t=some { cls:= .type "tuple",data:= .seq #[v] }->
   wpAny C.M (A.mark (some (.ref e))) (execs (b0::body) env) (fun f s4=>wpAny C.M A (do bindName env nm .none;unbindBehindTheSuite env nm p2) (fun _ s5=>Q f s5) E s4) NE s3):
  wpAny C.M A (handleBy (.ref e) env (.ExceptHandler (some (.Name c p1)) (some nm) (b0::body) p2::rest)) Q E s1:=by
 have qP:=fs.fly H F hns
 refine ug F.at fun a1 a2 a3 a4=> ?_
 refine wpAny_handleBy_cons (codeAny_handlers_test (ne (ql qP.pre hk hc mU ?_))) (by intro q;cases q)
 refine jAx X qP.pre.gr.keep a1 rfl m1 m1 ?_
 rw[decide_eq_true rfl]
 refine codeAny_handlers_suite_as (F.setFlight2 fun h2 F2 k2=> ?_)
 have kk:∀b m,s.heap.Ns b m->h2.Ns b m:=fun b m x=>k2 b m (hns b m x)
 have xa:=fs.fly H F2 kk
 refine ug F2.at fun b1 b2 b3 b4=> ?_
 refine ne (xa.assign (B:=A.mark (some (.ref e))) (d:= .opq (.ref e)) (.inl hnm) (.opq _) fun s3 vO yB=> ?_)
 have t2:=xa.pre.gr.tab
 have new:∀a,s.heap.get? a=none->a≠C.P/\¬ZO [] env a:=fun a ha=>by
  refine⟨fun e'=> ?_,fun hz=> ?_⟩
  ·obtain⟨ps,hp,_⟩:=fs.pre.gr.tab
   rw[e',hp] at ha;cases ha
  ·obtain⟨o,ho⟩:=fs.pre.hYs a (ZO.sub fs.wY hz)
   rw[ha] at ho;exact zn ho
 have bt:∀b∈zQ (env::outer),(∃m,h2.Ns b m)->∃m,s3.heap.Ns b m:=fun b hb ⟨m,hm⟩=>by
  by_cases e':b=env.locals
  ·subst e';exact yB.pre.fm.ns
  ·refine⟨m,hm.at fun o ho=>vO.heap (jg t2 hm) (fun hz=> ?_) ho⟩
   have iD:b∈jB env:=by exact hz
   rcases j0.mp iD with h|h
   ·exact e' h
   ·refine jH (vK.mp (qG.mp h).1) ?_;rintro q hq rfl
    refine qU (xa.pre.fm.cl q hq) fun u o' ho' yP=> ?_
    rw[ho'] at ho;replace ho:=j6 ho;subst ho
    refine jj hm fun o2 es ep ua hd2 _=> ?_;clear hm
    rw[ho'] at ua;replace ua:=j6 ua;subst ua;rw[hd2] at yP;cases yP
 have H3:Hd A env outer Y s3.heap:=⟨H.fr,fun x hx=>by
  obtain⟨z1,L,m,z2,z3⟩:=(H.fl.slots kk) x hx
  obtain⟨m',z4⟩:=bt L (List.mem_filterMap.mpr ⟨x,hx,z2⟩) ⟨m,z3⟩
  exact⟨z1,L,m',z2,z4⟩,H.fY,H.ef⟩
 refine ne (h s3 ((F2.kw.mono fun b hb=>Or.inl hb).trans (vO.mono fun b hb=>Or.inr (by exact hb))) yB H3 (fun b m hb hm=>(kk b m hm).at fun o ho=>vO.heap (jg t2 (kk b m hm)) (fun hz=>hb (by exact hz)) ho) (vO.heap (new e b3).1 (new e b3).2 b1) (vO.heap (new t b4).1 (new t b4).2 b2))
theorem FS.goes{x:Str}{pos:Pos}{Q:Unit->Shared->Prop}{E:q4}(fs:FS C n k A env Y [] l s)(hk:env.kindOf x=some .local)
  (q:∀s',KW C (·∈jB env) s s'->FS C n k A env Y [] (fun y=>if y=x then none else l y) s'->Q () s'):wpAny C.M B (do bindName env x .none;unbindBehindTheSuite env x pos) Q E s:=by
 obtain⟨m,hn⟩:=fs.pre.fm.ns
 refine wpAny_nameGoes_keeps hk hn (by rw[fs.pre.eo.kind];rfl) fun h' v dr hs=> ?_
 have hlW:env.locals∈q6 []++jB env:=jz _ jk
 have kw:KW C (·=env.locals) s { s with heap:=h',toks:=s.toks+1 }:=KW.one (Nat.le_succ _) rfl (fs.own.ne _ hlW) (fs.own.code _ hlW) (fun b o hb e=>by rw[hs.2 b hb];exact e) (by (refine uB dr fun o es ep ho _=> ?_;clear dr);exact⟨o,ho⟩)
 have hc:∀p∈env.cells,¬p.2=env.locals:=fun p hp e=>fs.pre.fm.ne hp e
 have hZ:∀b,b=env.locals->b∈q6 []++Y:=fun b hb=>hb▸jz _ (fs.wY _ jk)
 have t:=fs.pre.gr.tab
 refine q _ (kw.mono fun b hb=>hb▸jk) ⟨⟨fs.pre.bs,fs.pre.a,fs.pre.eo,fs.pre.gr.kw fs.pre.bs kw fun b hb=>fs.pre.hY b (hZ b hb),fs.pre.hP,fs.pre.hY,fun a ha=>kw.exs t (fs.pre.hYs a ha),⟨⟨_,dr⟩,fun p hp=> ?_,fs.pre.fm.apart⟩,fs.pre.hc,fun y d hy=> ?_⟩,fs.hP,fs.cY,fs.own.kw t kw,fs.wY,fs.nY,fs.ap,fs.cw,fun y ds hy=> ?_⟩
 ·obtain⟨v,hv⟩:=fs.pre.fm.cl p hp
  refine jH (id hv) fun o ho hd=> ?_
  exact oM v o (kw.heap (qN t hv) (hc p hp) ho) hd
 ·by_cases e:y=x
  ·unfold jV at hy;dsimp only at hy;rw[if_pos e] at hy;exact zn hy
  ·have hy':jV l y=some d:=by unfold jV at hy ⊢;dsimp only at hy;rw[if_neg e] at hy;exact hy
   refine jH (fs.pre.loc y d hy') fun u hu ru=> ?_
   refine⟨u,?_,RD.kw kw fs.pre.hP hZ ru⟩
   rcases hu with ⟨hk,m2,mS,aO⟩|⟨hk,c,xq,hv⟩
   ·refine .inl ⟨hk,_,dr,?_⟩
    rw[if_neg e,hn.agree mS];exact aO
   ·refine jH (id hv) fun o ho hd=> ?_
    exact .inr ⟨hk,c,xq,o,kw.heap (qN t hv) (hc _ (mem_of_lookup xq)) ho,hd⟩
 ·by_cases e:y=x
  ·rw[if_pos e] at hy;exact zn hy
  ·rw[if_neg e] at hy
   refine uB (fs.lst y ds hy) fun a vs m' h1 _=> ?_
   cases h1
noncomputable def hA(p:Nat->Pos)(nw nr:Str):Stmt:= .Assign [.Tuple [.Name "book" (p 0),.Name nw (p 1),.Name nr (p 2)] 0 (p 3)] (.Name "state" (p 4)) (p 5)
noncomputable def hR1(p:Nat->Pos)(nw nr:Str):Stmt:= .Return (some (.Tuple [.Name "book" (p 6),.BinOp (.Name nw (p 7)) .Add (.List [.Call (.Name "parse257" (p 8)) [.Name "reply" (p 9)] [] (p 10)] (p 11)) (p 12),.Name nr (p 13)] 0 (p 14))) (p 15)
noncomputable def hW(p:Nat->Pos):Stmt:= .Assign [.Name "words" (p 17)] (.Call (.Name "str" (p 18)) [.Name "error" (p 19)] [] (p 20)) (p 21)
noncomputable def hC1(p:Nat->Pos):ExceptHandler:= .ExceptHandler (some (.Name "error_reply" (p 16))) (some "error") [hW p] (p 22)
noncomputable def lz(p:Nat->Pos)(nw nr:Str):Stmt:= .Try [hR1 p nw nr] [hC1 p] [] [] (p 23)
noncomputable def hF(p:Nat->Pos):Stmt:= .Assign [.Name "found" (p 24)] (.Call (.Name "parse229" (p 25)) [.Name "words" (p 26),.Tuple [.Constant (.str "peer") 0 (p 27),.Constant (.int 21) 0 (p 28)] 0 (p 29)] [] (p 30)) (p 31)
noncomputable def hC2(p:Nat->Pos)(nw nr:Str):ExceptHandler:= .ExceptHandler (some (.Name "error_reply" (p 32))) (some "error") [.Return (some (.Tuple [.Name "book" (p 33),.Name nw (p 34),.BinOp (.Name nr (p 35)) .Add (.List [.BinOp (.Constant (.str "no ") 0 (p 36)) .Add (.Call (.Name "str" (p 37)) [.Name "error" (p 38)] [] (p 39)) (p 40)] (p 41)) (p 42)] 0 (p 43))) (p 44)] (p 45)
noncomputable def hC3(p:Nat->Pos)(nw nr:Str):ExceptHandler:= .ExceptHandler (some (.Name "error_proto" (p 46))) (some "error") [.Return (some (.Tuple [.Name "book" (p 47),.Name nw (p 48),.BinOp (.Name nr (p 49)) .Add (.List [.Call (.Name "str" (p 50)) [.Name "error" (p 51)] [] (p 52)] (p 53)) (p 54)] 0 (p 55))) (p 56)] (p 57)
noncomputable def ag(p:Nat->Pos)(nw nr:Str):Stmt:= .Try [hF p] [hC2 p nw nr,hC3 p nw nr] [] [] (p 58)
noncomputable def hP(p:Nat->Pos)(ie:Expr):Stmt:= .Assign [.Subscript (.Name "book" (p 59)) ie (p 60)] (.Name "found" (p 61)) (p 62)
noncomputable def hE(p:Nat->Pos)(nr:Str)(se:Expr):Stmt:= .Return (some (.Tuple [.Name "book" (p 63),se,.Name nr (p 64)] 0 (p 65))) (p 66)
noncomputable def ip(p:Nat->Pos)(nr:Str)(ie se:Expr):List Stmt:=[hP p ie,hE p nr se]
structure kI(fn:Fn)(nw nr:Str)(ie se:Expr):Prop where
 ok:uc fn=true
 names:fn.names=(["state","reply"]:List Str)
 loc:∀x∈([nw,nr,"book","state","reply","error","words","found"]:List Str),fn.scope.names.lookup x=some .local
 glb:∀x∈(["str","parse257","parse229","error_reply","error_proto"]:List Str),fn.scope.names.lookup x=some .globalImplicit
 ne1:∀x∈(["error","words","found"]:List Str),x≠nw/\x≠nr/\x≠"book"/\x≠"reply"
 ne2:nw≠nr/\nw≠"book"/\nr≠"book"/\nw≠"reply"/\nr≠"reply"
 dbg:∀x∈[nw,nr],(x==("__debug__":Str))=false/\(x==("__classdict__":Str))=false
 shape:∃p:Nat->Pos,fn.body=hA p nw nr::lz p nw nr::ag p nw nr::ip p nr ie se/\isStarred se=false
inductive fU (C:Cx) (r:Ev) (f:Str) (as:List D) (d:D):Prop
 |mk:∀fn l0 l',C.fns.lookup f=some fn->y5 fn.names as=some l0->qV r false fn.scope l0 fn.body=some (.ret d,l')->fU C r f as d
inductive uC (C:Cx) (r:Ev) (f:Str) (as:List D) (c x:Str):Prop
 |mk:∀fn l0 l',C.fns.lookup f=some fn->y5 fn.names as=some l0->qV r false fn.scope l0 fn.body=some (.exc c (.str x),l')->uC C r f as c x
noncomputable abbrev xD:D:= .tup [.str "peer",.int 21]
def HKey(C:Cx)(r:Ev)(fn:Fn)(nw:Str)(ie se:Expr)(kvs:xO)(w q:List D)(y:Str)(wa:xO)(w' q':List D):Prop:=
 (∃d key,fU C r "parse229" [.str y,xD] d/\(∀l:Loc,l nw=some (.list w)->r.E false fn.scope l ie=some (.str key))/\(∀l:Loc,l nw=some (.list w)->r.E false fn.scope l se=some (.list w'))/\kvs.length<=1000/\wa=qt kvs key d/\q'=q)\/
   (∃z,uC C r "parse229" [.str y,xD] "error_reply" z/\3+z.length<=lim/\q.length+1<=lim/\wa=kvs/\w'=w/\q'=q++[.str (("no ":Str)++z)])\/
   (∃z,uC C r "parse229" [.str y,xD] "error_proto" z/\q.length+1<=lim/\wa=kvs/\w'=w/\q'=q++[.str z])
def HStp(C:Cx)(r:Ev)(fn:Fn)(nw:Str)(ie se:Expr)(kvs:xO)(w q:List D)(t:Str)(wa:xO)(w' q':List D):Prop:=
 (∃x,fU C r "parse257" [.str t] (.str x)/\w.length+1<=lim/\wa=kvs/\w'=w++[.str x]/\q'=q)\/(∃y,uC C r "parse257" [.str t] "error_reply" y/\HKey C r fn nw ie se kvs w q y wa w' q')
def y6(C:Cx)(r:Ev)(fn:Fn)(nw:Str)(ie se:Expr)(a:xO×List D×List D)(t:Str)(b:xO×List D×List D):Prop:=HStp C r fn nw ie se a.1 a.2.1 a.2.2 t b.1 b.2.1 b.2.2
variable{fn:Fn}{nw t x y z key:Str}{ie se:Expr}{kvs:xO}{w q w':List D}{d:D}
theorem y6.name(h1:fU C r "parse257" [.str t] (.str x))(h2:w.length+1<=lim):y6 C r fn nw ie se (kvs,w,q) t (kvs,w++[.str x],q):= .inl ⟨_,h1,h2,rfl,rfl,rfl⟩
theorem y6.found(h1:uC C r "parse257" [.str t] "error_reply" y)(h2:fU C r "parse229" [.str y,xD] d)(h3:∀l:Loc,l nw=some (.list w)->r.E false fn.scope l ie=some (.str key))
  (h4:∀l:Loc,l nw=some (.list w)->r.E false fn.scope l se=some (.list w')) (h5:kvs.length<=1000):y6 C r fn nw ie se (kvs,w,q) t (qt kvs key d,w',q):= .inr ⟨_,h1,.inl ⟨_,_,h2,h3,h4,h5,rfl,rfl⟩⟩
theorem y6.reply(h1:uC C r "parse257" [.str t] "error_reply" y)(h2:uC C r "parse229" [.str y,xD] "error_reply" z)(h3:3+z.length<=lim)(h4:q.length+1<=lim):y6 C r fn nw ie se (kvs,w,q) t (kvs,w,q++[.str (("no ":Str)++z)]):=
 .inr ⟨_,h1,.inr (.inl ⟨_,h2,h3,h4,rfl,rfl,rfl⟩)⟩
theorem y6.proto(h1:uC C r "parse257" [.str t] "error_reply" y)(h2:uC C r "parse229" [.str y,xD] "error_proto" z)(h3:q.length+1<=lim):y6 C r fn nw ie se (kvs,w,q) t (kvs,w,q++[.str z]):=
 .inr ⟨_,h1,.inr (.inr ⟨_,h2,h3,rfl,rfl,rfl⟩)⟩
inductive BK (C:Cx) (s:Shared) (Y:List Addr) (DB:Addr) (kvs:xO):Prop
 |mk:∀(o:Obj) (ks:List Str) (vs:List Value) (ds:List D),s.heap.get? DB=some o->o.IsDictOf (strKind C.prog C.w) (ks.zip vs)->ks.length=vs.length->q5 C s.heap Y vs ds->kvs=ks.zip ds->BK C s Y DB kvs
theorem BK.kw{DB:Addr}(b:BK C s Y DB kvs)(x:KW C Z s s')(hP:C.P∈Y)(hZ:∀b,Z b->b∈Y)(h1:DB≠C.P)(h2:¬Z DB):BK C s' Y DB kvs:=by
 obtain⟨o,ks,vs,ds,e1,e2,e3,e4,e5⟩:=b
 exact⟨o,ks,vs,ds,x.heap h1 h2 e1,e2,e3,q5.kw x hP hZ e4,e5⟩
def lB(s si:Shared):Prop:=∀b m,s.heap.Ns b m->si.heap.Ns b m
theorem lB.kp(t:jl C s.heap)(kp:KP C s s1):lB s s1:=fun b m h=>h.at fun o ho=>kp.heap (jg t h) ho
theorem triple{e1 e2 e3:Expr}{kd:Nat}{pos:Pos}{Q:q4}{E:q4}(h1:isStarred e1=false)(h2:isStarred e2=false)(h3:isStarred e3=false)
  (h:wpAny C.M B (eval e1 env) (fun v1 s1=>wpAny C.M B (eval e2 env) (fun v2 s2=>wpAny C.M B (eval e3 env) (fun v3 s3=>Q (.ref s3.heap.objs.size) { s3 with heap:=s3.heap.push (xt [v1,v2,v3] 0) }) E s2) E s1) E s):
  wpAny C.M B (eval (.Tuple [e1,e2,e3] kd pos) env) Q E s:=by
 refine wpAny_Tuple (args_cons (wpAny_mono h (fun v1 s1 g1=>args_cons (wpAny_mono g1 (fun v2 s2 g2=>args_cons (wpAny_mono g2 (fun v3 s3 g3=>args_nil ⟨by simp;decide,g3⟩) fun _ _ x=>x) (jN h3)) fun _ _ x=>x) (jN h2)) fun _ _ x=>x) (jN h1))
theorem jDx{e1:Expr}{pos:Pos}{Q:q4}{E:q4}(h1:isStarred e1=false)
  (h:wpAny C.M B (eval e1 env) (fun v1 s1=>Q (.ref s1.heap.objs.size) { s1 with heap:=s1.heap.push (jc [v1] 0) }) E s):
  wpAny C.M B (eval (.List [e1] pos) env) Q E s:=
 wpAny_List (args_cons (wpAny_mono h (fun v1 s1 g1=>args_nil ⟨by simp;decide,g1⟩) fun _ _ x=>x) (jN h1))
structure HL(l:jQ)(nw nr:Str)(DB:Addr)(w q:List D)(t:Str):Prop where
 b:l "book"=some (.val (.opq (.ref DB)))
 w:l nw=some (.val (.list w))
 q:l nr=some (.val (.list q))
 t:l "reply"=some (.val (.str t))
theorem HL.set{nr:Str}{DB:Addr}(h:HL l nw nr DB w q t)(hx:x≠nw/\x≠nr/\x≠"book"/\x≠"reply"):HL (jA l x (.val d)) nw nr DB w q t:=
 ⟨by unfold jA;rw[if_neg (Ne.symm hx.2.2.1)];exact h.b,by unfold jA;rw[if_neg (Ne.symm hx.1)];exact h.w,by unfold jA;rw[if_neg (Ne.symm hx.2.1)];exact h.q,by unfold jA;rw[if_neg (Ne.symm hx.2.2.2)];exact h.t⟩
theorem HL.del{nr:Str}{DB:Addr}(h:HL l nw nr DB w q t)(hx:x≠nw/\x≠nr/\x≠"book"/\x≠"reply"):HL (fun y=>if y=x then none else l y) nw nr DB w q t:=
 ⟨(if_neg (Ne.symm hx.2.2.1)).trans h.b,(if_neg (Ne.symm hx.1)).trans h.w,(if_neg (Ne.symm hx.2.1)).trans h.q,(if_neg (Ne.symm hx.2.2.2)).trans h.t⟩
theorem gn{xC xE e t cl tb:Addr}{tk:Tok}{p1 p2 p3:Pos}{Q:q4}(X:wK C xC xE)(fs:FS C n k A env Y OL l s)(hu:B.units+2<cLine)(h1:env.kindOf "str"=some .globalImplicit)(h2:l "error"=some (.val (.opq (.ref e))))(m1:cl∈[xC,xE])
  (he:s.heap.get? e=some { cls:= .ref cl,data:= .fields #[.ref t,.ref tb,.none,.none,.bool false,.none] }) (ht:s.heap.get? t=some { cls:= .type "tuple",data:= .seq #[.str x tk] }) (q:Q (.str x tk) s):
  wpAny C.M B (eval (.Call (.Name "str" p1) [.Name "error" p2] [] p3) env) Q NE s:=by
 refine Call_Name rfl (xZ (v:= .type "str") fs.pre h1 kD jCz kD ?_)
 refine PyProof.Rows.callWith_type (by rfl) (evalArgs_plain (spliced_cons (xw fs h2 kD kD fun u ru=>spliced_nil ?_)))
 have lN:=Mine.R.opq_inv ru
 subst lN
 exact jDh X fs.pre.gr.keep hu he ht m1 q
variable{s3:Shared}
structure HX(C:Cx)(s:Shared)(outer:List Env)(env:Env)(Y:List Addr)(DB:Addr)(kvs:xO)(si:Shared):Prop where
 kw:KW C (fun b=>b=DB\/b∈zQ outer\/b∈jB env) s si
 ns:∀b m,b≠DB->s.heap.Ns b m->si.heap.Ns b m
 bk:BK C si (jB env++Y) DB kvs
structure HG(C:Cx)(s:Shared)(outer:List Env)(env:Env)(Y:List Addr)(DB:Addr):Prop where
 hn:∀a∈jB env,s.heap.get? a=none
 hcn:∀p∈env.cells,p.2∈jB env
 hP:C.P∈Y
 hYs:∀a∈Y,∃o,s.heap.get? a=some o
 hDY:DB∈Y
 hDP:DB≠C.P
 hDf:DB∉zQ outer
 hfY:∀b∈zQ outer,b∈Y
 hfl:dQ s.heap outer
 tab:jl C s.heap
theorem HG.dw{outer:List Env}{DB:Addr}(G:HG C s outer env Y DB):DB∉jB env:=fun hm=>by
 obtain⟨o,e⟩:=G.hYs DB G.hDY
 rw[G.hn DB hm] at e;exact zn e
theorem HX.step{outer:List Env}{DB:Addr}(G:HG C s outer env Y DB)(x:HX C s outer env Y DB kvs s1)(kw:KW C (·∈jB env) s1 s2):HX C s outer env Y DB kvs s2:=by
 have t1:=(x.kw.tabTo G.tab).1
 refine⟨x.kw.trans (kw.mono fun b hb=> .inr (.inr hb)),fun b m hb h=>(x.ns b m hb h).at fun o ho=>kw.heap (jg t1 (x.ns b m hb h)) (fun hz=> ?_) ho,x.bk.kw kw (jz _ G.hP) (fun b hb=>xn _ hb) G.hDP G.dw⟩
 refine uB h fun o' es ep ho' _=> ?_;clear h
 rw[G.hn b hz] at ho';exact zn ho'
theorem HX.kp{outer:List Env}{DB:Addr}(G:HG C s outer env Y DB)(x:HX C s outer env Y DB kvs s1)(kp:KP C s1 s2):HX C s outer env Y DB kvs s2:=x.step G kp.kw
theorem HX.frames{outer:List Env}{DB:Addr}(G:HG C s outer env Y DB)(x:HX C s outer env Y DB kvs s1)(kw:KW C (fun b=>b∈zQ outer\/b∈jB env) s1 s2)(hns:∀b m,b∉jB env->s1.heap.Ns b m->s2.heap.Ns b m):HX C s outer env Y DB kvs s2:=by
 refine⟨x.kw.trans (kw.mono fun b hb=> .inr hb),fun b m hb h=>hns b m (fun hm=> ?_) (x.ns b m hb h),x.bk.kw kw (jz _ G.hP) (fun b hb=> ?_) G.hDP fun hz=>hz.elim G.hDf G.dw⟩
 ·refine uB h fun o' es ep ho' _=> ?_;clear h
  rw[G.hn b hm] at ho';exact zn ho'
 ·rcases hb with hb|hb
  ·exact jz _ (G.hfY b hb)
  ·exact xn _ hb
theorem oR{DB:Addr}{v2 v3:Value}{Yf:List Addr}(hP:C.P∈Yf)(vF:∀a∈Yf,a<s3.heap.objs.size)
  (r2:RD C s3.heap Yf v2 (.list w)) (r3:RD C s3.heap Yf v3 (.list q)):RD C (s3.heap.push (xt [.ref DB,v2,v3] 0)) Yf (.ref s3.heap.objs.size) (.tup [.opq (.ref DB),.list w,.list q]):=by
 have kp:KP C s3 { s3 with heap:=s3.heap.push (xt [.ref DB,v2,v3] 0) }:=KP.push (tk:=s3.toks) nL
 exact .tup (n:=0) (xI (tk:=s3.toks) (o:=xt [.ref DB,v2,v3] 0) vF rfl) (.cons (.opq _) (.cons (RD.kp kp hP r2) (.cons (RD.kp kp hP r3) .nil)))
abbrev pD(C:Cx)(s:Shared)(outer:List Env)(Y:List Addr)(DB:Addr)(kvs:xO)(w q:List D)(Q:q4):Prop:=
 ∀v' s',KW C (fun b=>b=DB\/b∈zQ outer) s s'->(∀b m,b≠DB->s.heap.Ns b m->s'.heap.Ns b m)->RD C s'.heap Y v' (.tup [.opq (.ref DB),.list w,.list q])->BK C s' Y DB kvs->Q v' s'
theorem gy{outer:List Env}{DB:Addr}{v:Value}{Q:q4}(G:HG C s outer env Y DB)(x:HX C s outer env Y DB kvs s3)
  (rv:RD C s3.heap (jB env++Y) v (.tup [.opq (.ref DB),.list w,.list q])) (qq:pD C s outer Y DB kvs w q Q):Q v s3:=by
 have qQ:∀a∈Y,a∈jB env++Y:=fun a ha=>jz _ ha
 refine qq _ _ ((KW.refl s).transNew x.kw fun b hb=> ?_) x.ns (Mine.R.mono (jh qQ) rv) ?_
 ·rcases hb with h|h|h
  ·exact .inl (.inl h)
  ·exact .inl (.inr h)
  ·exact .inr (G.hn b h)
 ·obtain⟨o,ks,vs,ds,e1,e2,e3,e4,e5⟩:=x.bk
  exact⟨o,ks,vs,ds,e1,e2,e3,Rs.mono (jh qQ) e4,e5⟩
theorem HX.put{outer:List Env}{DB:Addr}{tk:Tok}{v:Value}{Q:Unit->Shared->Prop}(G:HG C s outer env Y DB)(x:HX C s outer env Y DB kvs s1)(fs:FS C n k A env (jB env++Y) [] l s1)(hl:kvs.length<=1000)(rv:RD C s1.heap (jB env++Y) v d)
  (q:∀s2,HX C s outer env Y DB (qt kvs key d) s2->FS C n k A env (jB env++Y) [] l s2->Q () s2):wpAny C.M B (setItem (.ref DB) (.str key tk) v) Q NE s1:=by
 obtain⟨o,ks,vs,ds,e1,e2,e3,e4,e5⟩:=x.bk
 have hlen:(ks.zip vs).length<=1000:=by
  have h4:=e4.length
  rw[e5] at hl
  simp only[List.length_zip] at hl ⊢
  lia
 refine wpAny_setItem_pairs (knd:=strKind C.prog C.w) (strKind_is _ _ key tk) (Heap.dictOf_iff.mpr ⟨o,e1,e2⟩) (fun h' hD hs=> ?_) (xJ hlen kD)
 refine jH (Heap.dictOf_iff.mp hD) fun o' ho' hod'=> ?_
 refine yz (jFi (C:=C) (H:=view s1.heap (jB env++Y)) (x:=key) e3 e4 rv) fun sr dI bT f1 f2 f3 f4=> ?_
 have iP:¬jx C s1.heap DB:=fun hc=>by
  obtain⟨ps,h1,h2,h3⟩:=fs.pre.gr.tab
  refine qU hc fun tA pos g1 g2=> ?_;clear hc
  rw[h1] at g1;cases g1
  refine ud (h3 pos _ g2) fun c oc ws t dK tC sJ _=> ?_
  cases dK
  rw[e1] at tC;replace tC:=j6 tC;subst tC
  refine zB e2 fun es ep _ hdd _=> ?_;clear e2
  rw[hdd] at sJ;cases sJ
 have kw:KW C (·=DB) s1 { s1 with heap:=h',toks:=s1.toks+1 }:=KW.one (Nat.le_succ _) rfl G.hDP iP (fun b o hb e=>by rw[hs.2 b hb];exact e) ⟨o',ho'⟩
 have hDY:DB∈jB env++Y:=jz _ G.hDY
 refine q _ ⟨x.kw.trans (kw.mono fun b hb=> .inl hb),fun b m hb h=>(x.ns b m hb h).at fun o ho=>(hs.2 b hb).trans ho,o',sr,dI,bT,ho',f1▸hod',f3,?_,by rw[e5];exact f2⟩ (fs.out kw (fun b hb=>hb▸hDY) (fun e=>G.dw (e▸jk)) fun p hp e=>G.dw (e▸G.hcn p hp))
 exact Rs.mono (fun a o e=>by
  obtain⟨e,nn⟩:=jM e
  exact jX ((hs.2 a fun e'=>nn (e'▸hDY)).trans e) nn) f4
structure HS(C:Cx)(n:Nat)(A:Around)(env:Env)(outer:List Env)(Y:List Addr)(s:Shared)(DB:Addr)(nw nr:Str)(kvs:xO)(w q:List D)(t:Str)(l:jQ)(si:Shared):Prop where
 fs:FS C n false (A.deeper env) env (jB env++Y) [] l si
 hx:HX C s outer env Y DB kvs si
 hd:Hd (A.deeper env) env outer (jB env++Y) si.heap
 hl:HL l nw nr DB w q t
theorem HS.kp{outer:List Env}{DB:Addr}{nr:Str}(G:HG C s outer env Y DB)(h:HS C n A env outer Y s DB nw nr kvs w q t l s1)(kp:KP C s1 s2):HS C n A env outer Y s DB nw nr kvs w q t l s2:=
 ⟨h.fs.kp kp,h.hx.kp G kp,h.hd.ns (lB.kp h.fs.pre.gr.tab kp),h.hl⟩
theorem jGw{x:D}{v2 v3:Value}{Q:q4}(fs:FS C n k A env Y OL l s)(h2:RD C s.heap (q6 OL++Y) v2 (.list w))(h3:RD C s.heap (q6 OL++Y) v3 x)(hw:w.length+1<=lim)
  (q:∀v s',KP C s s'->RD C s'.heap (q6 OL++Y) v (.list (w++[x]))->Q v s'):
  wpAny C.M B (binaryOp .Add v2 (.ref s.heap.objs.size)) Q NE { s with heap:=s.heap.push (jc [v3] 0) }:=by
 have kp:KP C s { s with heap:=s.heap.push (jc [v3] 0) }:=KP.push (tk:=s.toks) nL
 have p2:=fs.pre.kp kp
 refine wB (a:= .list w) (b:= .list [x]) p2.hP p2.lt (by refine(?_:(if w.length+[x].length<=lim then some (D.list (w++[x])) else none)=_);rw[if_pos (by exact hw)]) (RD.kp kp fs.pre.hP h2) (.list (n:=0) (xI (tk:=s.toks) (o:=jc [v3] 0) fs.pre.lt rfl) (.cons (RD.kp kp fs.pre.hP h3) .nil)) fun v s3 k3 r3=>q v s3 (kp.trans k3) r3
theorem jDd{outer:List Env}{DB e:Addr}{nr m:Str}(hf:kI fn nw nr ie se)(G:HG C s outer env Y DB)(h:HS C n A env outer Y s DB nw nr kvs w q t l s1)
  {ex:Expr} (hex:isStarred ex=false) {p1 p2 p3 p4 p5 p6 p7:Pos}
  (pO:∀(Q:q4),(∀tk s2,KP C s1 s2->Q (.str m tk) s2)->wpAny C.M B (eval ex env) Q NE s1) (hq:q.length+1<=lim) {Q:vo}
  (qq:∀v s2,FS C n false (A.deeper env) env (jB env++Y) [] l s2->HX C s outer env Y DB kvs s2->RD C s2.heap (jB env++Y) v (.tup [.opq (.ref DB),.list w,.list (q++[.str m])])->Q (.ret v) s2):
  wpAny C.M B (execs [.Return (some (.Tuple [.Name "book" p1,.Name nw p2,.BinOp (.Name nr p3) .Add (.List [ex] p4) p5] 0 p6)) p7] env) Q NE s1:=by
 refine wpAny_execs_cons (wpAny_Return_some (triple rfl rfl rfl (tL h.fs h.hl.b kD kD ?_)))
 refine xw h.fs h.hl.w (hf.dbg nw x9).1 (hf.dbg nw x9).2 fun v2 r2=> ?_
 refine wpAny_BinOp (xw h.fs h.hl.q (hf.dbg nr kK).1 (hf.dbg nr kK).2 fun v3 r3=>jDx hex (pO _ fun tk s2 kp=> ?_))
 have h2:=h.kp G kp
 refine jGw h2.fs (RD.kp kp h.fs.pre.hP r3) (.str m tk) hq fun v s3 k3 rv=> ?_
 have h3:=h2.kp G k3
 have pq:KP C s3 { s3 with heap:=s3.heap.push (xt [.ref DB,v2,v] 0) }:=KP.push (tk:=s3.toks) nL
 have h4:=h3.kp G pq
 exact qq _ _ h4.fs h4.hx (oR (by exact h3.fs.pre.hP) (by exact h3.fs.pre.lt) (by exact RD.kp (kp.trans k3) h.fs.pre.hP r2) (by exact rv))
theorem jHk{p1 p2 p3:Pos}{Q:q4}(fs:FS C n k A env Y OL l s)(q:∀v s',KP C s s'->RD C s'.heap (q6 OL++Y) v xD->Q v s'):wpAny C.M B (eval (.Tuple [.Constant (.str "peer") 0 p1,.Constant (.int 21) 0 p2] 0 p3) env) Q NE s:=by
 refine wpAny_Tuple (args_cons (pX (C:=C) (Y:=q6 OL++Y) fun v1 s1 k1 r1=>args_cons (rU (C:=C) (Y:=q6 OL++Y) fun v2 s2 k2 r2=>args_nil ⟨by simp;decide,?_⟩)))
 have kp:KP C s2 { s2 with heap:=s2.heap.push (xt [v1,v2] 0) }:=KP.push (tk:=s2.toks) nL
 have p:=fs.pre.kp (k1.trans k2)
 exact q _ _ ((k1.trans k2).trans kp) (.tup (n:=0) (xI (tk:=s2.toks) (o:=xt [v1,v2] 0) p.lt rfl) (.cons (RD.kp (k2.trans kp) p.hP r1) (.cons (RD.kp kp p.hP r2) .nil)))
theorem jAl{outer:List Env}{DB xC xE e t0 cl tb:Addr}{c nr m:Str}{tk:Tok}(hf:kI fn nw nr ie se)(X:wK C xC xE)(G:HG C s outer env Y DB)(h:HS C n A env outer Y s DB nw nr kvs w q t l s1)(qJ:env.scope=fn.scope)
  (hu:A.units+10<cLine) (F:zp C s1 (zQ (env::outer)) e t0 cl (.str z tk) (.ref tb) .none s2) (hns:∀b m,s1.heap.Ns b m->s2.heap.Ns b m) (hc:C.mg c=some (.ref cl)) (m1:cl∈[xC,xE]) (hcn:c="error_reply"\/c="error_proto")
  {ex:Expr} (hex:isStarred ex=false) {p0 p1 p2 p3 p4 p5 p6 p7 p8:Pos} {rest:List ExceptHandler}
  (pO:∀(l:jQ) (s3:Shared),l "error"=some (.val (.opq (.ref e)))->FS C n false (A.deeper env) env (jB env++Y) [] l s3->s3.heap.get? e=some { cls:= .ref cl,data:= .fields #[.ref t0,.ref tb,.none,.none,.bool false,.none] }->s3.heap.get? t0=some { cls:= .type "tuple",data:= .seq #[.str z tk] }->
   ∀(Q:q4),(∀tk s2,KP C s3 s2->Q (.str m tk) s2)->wpAny C.M ((A.deeper env).mark (some (.ref e))) (eval ex env) Q NE s3) (hq:q.length+1<=lim)
  {Q:q4} {QF:vo} {E:q4} (ni:∀v s,Q v s->QF (.ret v) s) (qq:pD C s outer Y DB kvs w (q++[.str m]) Q):
  wpAny C.M (A.deeper env) (handleBy (.ref e) env (.ExceptHandler (some (.Name c p0)) (some "error") [.Return (some (.Tuple [.Name "book" p1,.Name nw p2,.BinOp (.Name nr p3) .Add (.List [ex] p4) p5] 0 p6)) p7] p8::rest)) QF E s2:=by
 have du:∀x∈([nw,nr,"book","state","reply","error","words","found"]:List Str),env.kindOf x=some .local:=fun x hx=>by
  refine(?_:env.scope.names.lookup x=_)
  rw[qJ];exact hf.loc x hx
 have tD:∀x∈(["str","parse257","parse229","error_reply","error_proto"]:List Str),env.kindOf x=some .globalImplicit:=fun x hx=>by
  refine(?_:env.scope.names.lookup x=_)
  rw[qJ];exact hf.glb x hx
 have hkc:env.kindOf c=some .globalImplicit/\(c==("__debug__":Str))=false:=by
  rcases hcn with rfl|rfl
  ·exact⟨tD _ nu,by decide⟩
  ·exact⟨tD _ zm4,by decide⟩
 refine clause_hit (hd:= .none) X h.fs h.hd F hns hkc.1 hkc.2 hc m1 (du "error" lD) fun s3 vO yB H3 bt he3 iJ=> ?_
 have wI:KW C (fun b=>b∈zQ outer\/b∈jB env) s1 s3:=vO.mono fun b hb=>by
  rcases hb with hb|hb
  ·rw[zQ,List.filterMap_cons,h.hd.ef] at hb
   rcases j0.mp hb with hb|hb
   ·exact .inr (hb▸jk)
   ·exact .inl hb
  ·exact .inr hb
 have hx3:=h.hx.frames G wI bt
 have ej:jA l "error" (.val (.opq (.ref e))) "error"=some (.val (.opq (.ref e))):=by unfold jA;rw[if_pos rfl]
 have h3:HS C n A env outer Y s DB nw nr kvs w q t (jA l "error" (.val (.opq (.ref e)))) s3:=⟨yB,hx3,H3,h.hl.set (hf.ne1 "error" x9)⟩
 refine jDd (B:=(A.deeper env).mark (some (.ref e))) (e:=e) (m:=m) hf G h3 hex (pO _ s3 ej yB he3 iJ) hq fun v s4 yw iE rv=> ?_
 refine yw.goes (du "error" lD) fun s5 dq kW=>ni v s5 ?_
 exact gy G (iE.step G dq) (RD.kw dq (jz _ G.hP) (fun b hb=>xn _ hb) rv) qq
theorem jH1(S:wt C n r){outer:List Env}{DB xC xE:Addr}{nr:Str}{wa:xO}{q':List D}{p:Nat->Pos}(hf:kI fn nw nr ie se)(X:wK C xC xE)(G:HG C s outer env Y DB)(h:HS C (n+1) A env outer Y s DB nw nr kvs w q t l s1)(qJ:env.scope=fn.scope)
  (hu:A.units+10<cLine) (hw:l "words"=some (.val (.str y))) (aI:isStarred se=false)
  (wR:HKey C r fn nw ie se kvs w q y wa w' q')
  {Q:q4} {QF:vo} {E:q4} (ni:∀v s,Q v s->QF (.ret v) s) (qq:pD C s outer Y DB wa w' q' Q):
  wpAny C.M (A.deeper env) (execs (ag p nw nr::ip p nr ie se) env) QF E s1:=by
 have du:∀x∈([nw,nr,"book","state","reply","error","words","found"]:List Str),env.kindOf x=some .local:=fun x hx=>by
  refine(?_:env.scope.names.lookup x=_)
  rw[qJ];exact hf.loc x hx
 have tD:∀x∈(["str","parse257","parse229","error_reply","error_proto"]:List Str),env.kindOf x=some .globalImplicit:=fun x hx=>by
  refine(?_:env.scope.names.lookup x=_)
  rw[qJ];exact hf.glb x hx
 have bs:=h.fs.pre.bs
 obtain⟨fp,vJ⟩:∃fp,C.fns.lookup ("parse229":Str)=some fp:=by
  rcases wR with ⟨d,key,⟨fp,l0,l',h1,_⟩,_⟩|⟨z,⟨fp,l0,l',h1,_⟩,_⟩|⟨z,⟨fp,l0,l',h1,_⟩,_⟩ <;> exact⟨fp,h1⟩
 refine fR (bs.fn _ fp vJ) fun a oa pm code doc hm iM ib fD=> ?_
 refine wpAny_execs_cons (wpAny_Try_except (wpAny_execs_cons (wpAny_Assign_Name ?_ (by rfl))))
 refine Call_Name rfl (ne (ql h.fs.pre (tD "parse229" mF) hm kD ?_))
 refine callWith_function (o:=oa) (fd:=docDef "parse229" fp.params fp.body fp.scope pm code doc) (evalArgs_plain (spliced_cons (ne (xw h.fs hw kD kD fun u ru=>spliced_cons (ne (jHk h.fs fun u2 s2 kp ru2=>spliced_nil ⟨⟨(h.fs.kp kp).pre.gr.keep _ _ iM,ib⟩,?_⟩))))))
 have h2:=h.kp G kp
 have p2:=h2.fs.pre
 have rs:q5 C s2.heap (q6 []++(jB env++Y)) [u,u2] [.str y,xD]:= .cons (RD.kp kp h.fs.pre.hP ru) (.cons ru2 .nil)
 have room:yA n (A.deeper env):=p2.a.room
 rcases wR with ⟨d,key,⟨eC,l0,l',h1,hb,hs⟩,hie,hse',nW,rfl,rfl⟩|⟨z,⟨eC,l0,l',h1,hb,hs⟩,hz,hq,rfl,rfl,rfl⟩|⟨z,⟨eC,l0,l',h1,hb,hs⟩,hq,rfl,rfl,rfl⟩
 ·rw[vJ] at h1;replace h1:=j6 h1;subst h1
  refine vB S.S vJ hm bs p2.gr p2.hP p2.hY p2.hYs room hb hs rs fun v s3 fx rv=> ?_
  have h3:=h2.kp G fx
  refine ne (h3.fs.assign (.inl (du "found" zm7)) rv fun s4 yx yw=>wpAny_execs_nil (wpAny_execs_nil ?_))
  have kr:KW C (·∈jB env) s3 s4:=yx.mono fun b hb=>by exact hb
  have iE:=h3.hx.step G kr
  have aQ:=h3.hl.set (d:=d) (hf.ne1 "found" mF)
  have lf4:jA l "found" (.val d) "found"=some (.val d):=by unfold jA;rw[if_pos rfl]
  generalize jA l "found" (.val d)=l4 at yw aQ lf4
  have pw:jV l4 nw=some (.list w):=by unfold jV;rw[aQ.w]
  refine wpAny_execs_cons (wpAny_Assign_Subscript (ne (xw yw lf4 kD kD fun vf rf=>ne (tL yw aQ.b kD kD (ne (S.E.at (yw.pre.mono (Nat.le_succ n)) (by rw[qJ];exact hie _ pw) fun vi s5 tM p5 ri=>ne ?_))))) (by rfl))
  obtain⟨tki,rfl⟩:=ri.str_inv
  have kW:=yw.kp tM
  have aD:=iE.kp G tM
  refine aD.put G kW nW (by exact RD.kp tM yw.pre.hP rf) fun s6 hx6 rA=> ?_
  refine wpAny_execs_cons (wpAny_Return_some (triple rfl aI rfl (ne (tL rA aQ.b kD kD (ne (S.E.at (rA.pre.mono (Nat.le_succ n)) (by rw[qJ];exact hse' _ pw) fun v2 s7 cy p7 r2=>ne (xw (rA.kp cy) aQ.q (hf.dbg nr kK).1 (hf.dbg nr kK).2 fun v3 r3=> ?_)))))))
  have dz:=rA.kp cy
  have hx7:=hx6.kp G cy
  have kp8:KP C s7 { s7 with heap:=s7.heap.push (xt [.ref DB,v2,v3] 0) }:=KP.push (tk:=s7.toks) nL
  exact ni _ _ (gy G (hx7.kp G kp8) (oR (by exact dz.pre.hP) (by exact dz.pre.lt) (by exact r2) (by exact r3)) qq)
 ·rw[vJ] at h1;replace h1:=j6 h1;subst h1
  refine wm S.S vJ hm bs p2.gr p2.hP p2.hY p2.hYs room h2.hd.fr h2.hd.fl hb hs rs fun e t0 cl tb tk s3 F xq hns=> ?_
  refine fq h2.fs h2.hd F hns fun s4 mG F4 th yw H4=> ?_
  have aZ:cl=xC:=by have:=X.mR;rw[xq] at this;injection this with this;injection this
  refine jAl (m:=("no ":Str)++z) hf X G h2 qJ hu F4 th xq (by simp[aZ]) (.inl rfl) rfl (fun l9 s9 ei mB l8 lO Q9 q9=> ?_) hq ni qq
  refine wpAny_BinOp (pX (C:=C) (Y:=q6 []++(jB env++Y)) fun v1 lF sx r1=> ?_)
  have he10:lF.heap.get? e=_:=sx.heap (mB.pre.gr.ne l8 (by intro h;cases h)) l8
  have ht10:lF.heap.get? t0=_:=sx.heap (mB.pre.gr.ne lO (by intro h;cases h)) lO
  refine gn X (mB.kp sx) (by refine(?_:A.units+3+2<cLine);(refine Nat.lt_of_le_of_lt ?_ (by assumption);simp+arith)) (tD "str" x9) ei (by simp[aZ]) he10 ht10 ?_
  have mJ:=(mB.kp sx).pre
  have iD:("no ":Str).length+z.length<=lim:=by
   have:("no ":Str).length=3:=by decide
   lia
  refine wB (a:= .str "no ") (b:= .str z) mJ.hP mJ.lt (by refine(?_:(if (("no ":Str)).length+z.length<=lim then some (D.str (("no ":Str)++z)) else none)=_);exact if_pos iD) r1 (.str z tk) fun v s11 k11 r11=> ?_
  obtain⟨tk11,rfl⟩:=r11.str_inv
  exact q9 _ _ (sx.trans k11)
 ·rw[vJ] at h1;replace h1:=j6 h1;subst h1
  refine wm S.S vJ hm bs p2.gr p2.hP p2.hY p2.hYs room h2.hd.fr h2.hd.fl hb hs rs fun e t0 cl tb tk s3 F xq hns=> ?_
  refine fq h2.fs h2.hd F hns fun s4 mG F4 th yw H4=> ?_
  have lr:cl=xE:=by have:=X.mP;rw[xq] at this;injection this with this;injection this
  refine clause_miss (t:=t0) (hd:= .none) X yw (tD "error_reply" nu) kD X.mR F4.at.1 rfl (by simp[lr]) x9 (by rw[lr];exact X.ne.symm) ?_
  refine jAl (m:=z) hf X G h2 qJ hu F4 th xq (by simp[lr]) (.inr rfl) rfl (fun l9 s9 ei mB l8 lO Q9 q9=> ?_) hq ni qq
  exact gn X mB (by refine(?_:A.units+3+2<cLine);(refine Nat.lt_of_le_of_lt ?_ (by assumption);simp+arith)) (tD "str" x9) ei (by simp[lr]) l8 lO (q9 _ _ (KP.refl _))
theorem jH2(S:wt C n r){l5:jQ}{s5:Shared}{outer:List Env}{DB xC xE:Addr}{nr:Str}{wa:xO}{q':List D}{p:Nat->Pos}(hf:kI fn nw nr ie se)(X:wK C xC xE)(G:HG C s outer env Y DB)(h5:HS C (n+1) A env outer Y s DB nw nr kvs w q t l5 s5)(qJ:env.scope=fn.scope)
  (hu:A.units+10<cLine) (aI:isStarred se=false) (xo:HStp C r fn nw ie se kvs w q t wa w' q') {Q:q4} {QF:vo} {E:q4} (ni:∀v s,Q v s->QF (.ret v) s) (qq:pD C s outer Y DB wa w' q' Q):
  wpAny C.M (A.deeper env) (execs (lz p nw nr::ag p nw nr::ip p nr ie se) env) QF E s5:=by
 have bs:=h5.fs.pre.bs
 have uq:=h5.hd.ef
 have du:∀x∈([nw,nr,"book","state","reply","error","words","found"]:List Str),env.kindOf x=some .local:=fun x hx=>by
  refine(?_:env.scope.names.lookup x=_)
  rw[qJ];exact hf.loc x hx
 have tD:∀x∈(["str","parse257","parse229","error_reply","error_proto"]:List Str),env.kindOf x=some .globalImplicit:=fun x hx=>by
  refine(?_:env.scope.names.lookup x=_)
  rw[qJ];exact hf.glb x hx
 obtain⟨fp,vJ⟩:∃fp,C.fns.lookup ("parse257":Str)=some fp:=by
  rcases xo with ⟨_,⟨fp,_,_,h1,_⟩,_⟩|⟨_,⟨fp,_,_,h1,_⟩,_⟩ <;> exact⟨fp,h1⟩
 refine fR (bs.fn _ fp vJ) fun a oa pm' code' doc' hm iM ib fD=> ?_
 refine wpAny_execs_cons (wpAny_Try_except (wpAny_execs_cons (wpAny_Return_some (triple rfl rfl rfl (ne (tL h5.fs h5.hl.b kD kD ?_))))))
 refine wpAny_BinOp (ne (xw h5.fs h5.hl.w (hf.dbg nw x9).1 (hf.dbg nw x9).2 fun v2 r2=>jDx rfl ?_))
 refine Call_Name rfl (ne (ql h5.fs.pre (tD "parse257" kK) hm kD ?_))
 refine callWith_function (o:=oa) (fd:=docDef "parse257" fp.params fp.body fp.scope pm' code' doc') (evalArgs_plain (spliced_cons (ne (xw h5.fs h5.hl.t kD kD fun u ru=>spliced_nil ⟨⟨h5.fs.pre.gr.keep _ _ iM,ib⟩,?_⟩))))
 have p5:=h5.fs.pre
 have room5:yA n (A.deeper env):=p5.a.room
 rcases xo with ⟨x,⟨eC,la,lb,h1,mW,iL⟩,hw1,rfl,rfl,rfl⟩|⟨y,⟨eC,la,lb,h1,mW,iL⟩,wR⟩
 ·rw[vJ] at h1;replace h1:=j6 h1;subst h1
  refine vB S.S vJ hm bs p5.gr p5.hP p5.hY p5.hYs room5 mW iL (.cons ru .nil) fun v6 s6 kp6 rv6=> ?_
  have h6:=h5.kp G kp6
  refine ne (jGw h6.fs (RD.kp kp6 p5.hP r2) rv6 hw1 fun v7 s7 cy rv7=>ne (xw (h6.kp G cy).fs h5.hl.q (hf.dbg nr kK).1 (hf.dbg nr kK).2 fun v8 rv8=> ?_))
  have h7:=h6.kp G cy
  have kp9:KP C s7 { s7 with heap:=s7.heap.push (xt [.ref DB,v7,v8] 0) }:=KP.push (tk:=s7.toks) nL
  exact ni _ _ (gy G (h7.hx.kp G kp9) (oR (by exact h7.fs.pre.hP) (by exact h7.fs.pre.lt) (by exact rv7) (by exact rv8)) qq)
 ·rw[vJ] at h1;replace h1:=j6 h1;subst h1
  refine wm S.S vJ hm bs p5.gr p5.hP p5.hY p5.hYs room5 h5.hd.fr h5.hd.fl mW iL (.cons ru .nil) fun e t0 cl tb tk s6 F xq hns=> ?_
  refine fq h5.fs h5.hd F hns fun s7 mG F7 hns7 dz H7=> ?_
  have aZ:cl=xC:=by have:=X.mR;rw[xq] at this;injection this with this;injection this
  refine clause_hit (hd:= .none) X h5.fs h5.hd F7 hns7 (tD "error_reply" nu) kD xq (by simp[aZ]) (du "error" lD) fun s8 sk bR H8 hns8 he8 ht8=> ?_
  have kw8':KW C (fun b=>b∈zQ outer\/b∈jB env) s5 s8:=sk.mono fun b hb=>by
   rcases hb with hb|hb
   ·rw[zQ,List.filterMap_cons,uq] at hb
    rcases j0.mp hb with hb|hb
    ·exact .inr (hb▸jk)
    ·exact .inl hb
   ·exact .inr hb
  have hx8:=h5.hx.frames G kw8' hns8
  have le8:jA l5 "error" (.val (.opq (.ref e))) "error"=some (.val (.opq (.ref e))):=by unfold jA;rw[if_pos rfl]
  refine wpAny_execs_cons (wpAny_Assign_Name (gn X bR (by refine(?_:A.units+3+2<cLine);(refine Nat.lt_of_le_of_lt ?_ (by assumption);simp+arith)) (tD "str" x9) le8 (by simp[aZ]) he8 ht8 ?_) (by rfl))
  refine bR.assign (d:= .str y) (.inl (du "words" zm6)) (.str y tk) fun s9 eu mB=>wpAny_execs_nil ?_
  have kw9':KW C (·∈jB env) s8 s9:=eu.mono fun b hb=>by exact hb
  refine mB.goes (du "error" lD) fun lF kw10 cM=> ?_
  have hx10:=(hx8.step G kw9').step G kw10
  have hl10:HL (fun z=>if z=("error":Str) then none else jA (jA l5 "error" (.val (.opq (.ref e)))) "words" (.val (.str y)) z) nw nr DB w q t:=((h5.hl.set (hf.ne1 "error" x9)).set (hf.ne1 "words" kK)).del (hf.ne1 "error" x9)
  have lw10:(fun z=>if z=("error":Str) then none else jA (jA l5 "error" (.val (.opq (.ref e)))) "words" (.val (.str y)) z) "words"=some (.val (.str y)):=by
   refine(?_:(if ("words":Str)="error" then none else jA (jA l5 "error" (.val (.opq (.ref e)))) "words" (.val (.str y)) "words")=_)
   rw[if_neg kD]
   unfold jA
   rw[if_pos rfl]
  have hd10:Hd (A.deeper env) env outer (jB env++Y) lF.heap:=by
   refine⟨h5.hd.fr,fun x hx=> ?_,h5.hd.fY,uq⟩
   rcases j0.mp hx with rfl|hx
   ·obtain⟨m,hm⟩:=cM.pre.fm.ns
    exact⟨by rw[cM.pre.eo.kind];decide,_,m,uq,hm⟩
   ·obtain⟨z1,L,m,z2,z3⟩:=G.hfl x hx
    exact⟨z1,L,m,z2,hx10.ns L m (fun e=>G.hDf (e▸List.mem_filterMap.mpr ⟨x,hx,z2⟩)) z3⟩
  exact jH1 S hf X G ⟨cM,hx10,hd10,hl10⟩ qJ hu lw10 aI wR ni qq
theorem jF0(S:wt C n r){f:Str}{nr:Str}(hf:kI fn nw nr ie se){xC xE:Addr}(X:wK C xC xE)(bs:Base C){af:Addr}{o:Obj}{pm code doc:Value}(ho:C.g0.get? af=some o)(hd:o.data= .func (docDef f fn.params fn.body fn.scope pm code doc))(hc:C.g0.CodeRec code f)
  {outer:List Env} (g:Gr C s) (hP:C.P∈Y) (hY:∀a∈Y,C.g0.get? a=none) (hYs:∀a∈Y,∃o,s.heap.get? a=some o) (bV:yW (n+2) A) (kM:A.frames=some outer) (hfl:dQ s.heap outer) (hfY:∀b∈zQ outer,b∈Y) {DB:Addr} (hDY:DB∈Y) (hDP:DB≠C.P) (hDf:DB∉zQ outer)
  {va vd:Value} {kvs wa:xO} {w q w' q':List D} (hv:RD C s.heap Y va (.tup [.opq (.ref DB),.list w,.list q])) (ht:RD C s.heap Y vd (.str t)) (ig:BK C s Y DB kvs) (xo:y6 C r fn nw ie se (kvs,w,q) t (wa,w',q')) {Q E:q4} (qq:pD C s outer Y DB wa w' q' Q):
  wpAny C.M A (call (.ref af) [va,vd]) Q E s:=by
 have ok:=vr hf.ok
 have room:yA (n+1) A:=bV.room
 have tj:=room.depth
 have hun:=room.units
 have uM:fn.params.args.map (·.arg)=(["state","reply"]:List Str):=hf.names
 have hlen:fn.params.args.length=2:=by have:=congrArg List.length uM;simpa using this
 refine wpAny_call (codeAny_call_function (fd:=docDef f fn.params fn.body fn.scope pm code doc) (body:=fn.body) (by have:recursionLimit=1000:=rfl;lia) (g.keep _ _ ho) hd ok.co ok.gen rfl (hc.keeps g.keep) ?_)
 rw[qc ok.plain rfl (by refine(?_:fn.params.args.length=2);exact hlen)]
 refine wpAny_pure (ne ?_)
 obtain⟨l0,hb⟩:∃l0,y5 fn.names [.tup [.opq (.ref DB),.list w,.list q],.str t]=some l0:=by rw[hf.names];exact⟨_,rfl⟩
 have um:=xB hb
 rw[hf.names] at um
 have sf:l0 "state"=some (.val (.tup [.opq (.ref DB),.list w,.list q])):=by rw[um];rfl
 have lr0:l0 "reply"=some (.val (.str t)):=by rw[um];rfl
 refine za (k:=false) (n:=n+1) (A:=A) ok bs g hP hY hYs (fun env=>room.deeper) hb (.cons hv (.cons ht .nil)) (fun h=>by exact zf h) fun env s1 zE qP wX hcn qJ uq=>⟨bs.nolimit.keeps (g.kp bs zE).keep,codeAny_func ?_⟩
 refine jH hf.shape fun p kG aI=> ?_
 rw[kG]
 have du:∀x∈([nw,nr,"book","state","reply","error","words","found"]:List Str),env.kindOf x=some .local:=fun x hx=>by
  refine(?_:env.scope.names.lookup x=_)
  rw[qJ];exact hf.loc x hx
 have tD:∀x∈(["str","parse257","parse229","error_reply","error_proto"]:List Str),env.kindOf x=some .globalImplicit:=fun x hx=>by
  refine(?_:env.scope.names.lookup x=_)
  rw[qJ];exact hf.glb x hx
 have G:HG C s outer env Y DB:=⟨wX,hcn,hP,hYs,hDY,hDP,hDf,hfY,hfl,g.tab⟩
 have hbk1:BK C s1 (jB env++Y) DB kvs:=by
  obtain⟨ob,ks,vs,ds,e1,e2,e3,e4,e5⟩:=ig
  exact⟨ob,ks,vs,ds,zE.heap hDP e1,e2,e3,q5.moreL zE hP wX (fun a ha=>jq.mp ha) e4,e5⟩
 have hx1:HX C s outer env Y DB kvs s1:=⟨zE.kw,fun b m _ h=>lB.kp g.tab zE b m h,hbk1⟩
 have lh:Hd (A.deeper env) env outer (jB env++Y) s1.heap:=by
  refine⟨Around.frames_deeper kM,fun x hx=> ?_,fun b hb=> ?_,uq⟩
  ·rcases j0.mp hx with rfl|hx
   ·obtain⟨m,hm⟩:=qP.pre.fm.ns
    exact⟨by rw[qP.pre.eo.kind];decide,_,m,uq,hm⟩
   ·exact(hfl.slots (lB.kp g.tab zE)) x hx
  ·rw[zQ,List.filterMap_cons,uq] at hb
   rcases j0.mp hb with rfl|hb
   ·exact xn _ jk
   ·exact jz _ (hfY b hb)
 refine wpAny_execs_cons (wpAny_Assign_stores (ne (xw qP sf kD kD fun v rv=> ?_)) (by rfl) (by rfl))
 refine jj rv.tup_inv ?_;rintro at' vs m rfl bD rs
 refine yz rs.un3 ?_;rintro u1 u2 u3 rfl r1 r2 r3
 refine ne ?_
 refine(?_:wpAny C.M (A.deeper env) (assign (.Tuple [.Name "book" (p 0),.Name nw (p 1),.Name nr (p 2)] 0 (p 3)) env (.ref at')) _ NE s1)
 refine wpAny_assign_Tuple qP.pre.a.handled (jy bD) (by rfl) (by rfl) fun h' hk=> ?_
 have su:KP C s1 { s1 with heap:=h' }:=KP.of nL fun b o e=>hk b o (fun e'=>Nat.lt_irrefl _ (e'▸Heap.lt_size e)) e
 have xa:=qP.kp su
 have mY:=qP.pre.hP
 refine assignInOrder_cons (wpAny_assign_Name (xa.assign (.inl (du "book" mF)) (RD.kp su mY r1) fun s3 vO yB=> ?_))
 have wI:KW C (·∈jB env) { s1 with heap:=h' } s3:=vO.mono fun b hb=>by exact hb
 have hZ:∀b,b∈jB env->b∈q6 []++(jB env++Y):=fun b hb=>by simp[hb]
 refine assignInOrder_cons (wpAny_assign_Name (yB.assign (.inl (du nw x9)) (RD.kw wI mY hZ (RD.kp su mY r2)) fun s4 yx yw=> ?_))
 have kr:KW C (·∈jB env) s3 s4:=yx.mono fun b hb=>by exact hb
 refine assignInOrder_cons (wpAny_assign_Name (yw.assign (.inl (du nr kK)) (RD.kw kr mY hZ (RD.kw wI mY hZ (RD.kp su mY r3))) fun s5 dq kW=>assignInOrder_nil ?_))
 have kT:KW C (·∈jB env) s4 s5:=dq.mono fun b hb=>by exact hb
 have e1:=Mine.R.opq_inv r1
 subst e1
 have aD:=(((hx1.kp G su).step G wI).step G kr).step G kT
 have hl5:HL (jA (jA (jA l0 "book" (.val (.opq (.ref DB)))) nw (.val (.list w))) nr (.val (.list q))) nw nr DB w q t:=by
  refine fS hf.ne2 fun n1 n2 n3 n4 n5=> ?_
  refine⟨?_,?_,?_,?_⟩ <;> unfold jA
  ·rw[if_neg (Ne.symm n3),if_neg (Ne.symm n2),if_pos rfl]
  ·rw[if_neg n1,if_pos rfl]
  ·rw[if_pos rfl]
  ·rw[if_neg (Ne.symm n5),if_neg (Ne.symm n4),if_neg kD];exact lr0
 have hd5:Hd (A.deeper env) env outer (jB env++Y) s5.heap:=by
  refine⟨lh.fr,fun x hx=> ?_,lh.fY,uq⟩
  rcases j0.mp hx with rfl|hx
  ·obtain⟨m,hm⟩:=kW.pre.fm.ns
   exact⟨by rw[kW.pre.eo.kind];decide,_,m,uq,hm⟩
  ·obtain⟨z1,L,m,z2,z3⟩:=hfl x hx
   exact⟨z1,L,m,z2,aD.ns L m (fun e=>hDf (e▸List.mem_filterMap.mpr ⟨x,hx,z2⟩)) z3⟩
 have h5:HS C (n+1) A env outer Y s DB nw nr kvs w q t _ s5:=⟨kW,aD,hd5,hl5⟩
 generalize jA (jA (jA l0 "book" (.val (.opq (.ref DB)))) nw (.val (.list w))) nr (.val (.list q))=l5 at h5
 clear hl5 aD hd5 kW
 have hu:A.units+10<cLine:=by refine(?_:A.units+10<9900);lia
 exact jH2 S hf X G h5 qJ hu aI xo (fun _ _ h=>h) qq
variable{s0:Shared}
noncomputable abbrev t9:=xO×List D×List D
structure HI(C:Cx)(af DB:Addr)(fo:Obj)(outer:List Env)(st:Nat->t9)(s0:Shared)(Y:List Addr)(j:Nat)(v:Value)(s:Shared):Prop where
 v:RD C s.heap Y v (.tup [.opq (.ref DB),.list (st j).2.1,.list (st j).2.2])
 bk:BK C s Y DB (st j).1
 f:s.heap.get? af=some fo
 fY:∀b∈zQ outer,b∈Y
 dY:DB∈Y
 ns:∀b∈zQ outer,∀m,s0.heap.Ns b m->s.heap.Ns b m
 db:∃o,s.heap.get? DB=some o
theorem BK.weak{DB:Addr}(b:BK C s Y DB kvs)(hd:∀o,s.heap.get? DB=some o->s'.heap.get? DB=some o)(hr:∀vs ds,q5 C s.heap Y vs ds->q5 C s'.heap Y' vs ds):BK C s' Y' DB kvs:=by
 obtain⟨o,ks,vs,ds,e1,e2,e3,e4,e5⟩:=b
 exact⟨o,ks,vs,ds,hd o e1,e2,e3,hr _ _ e4,e5⟩
theorem jFz(S:wt C n r){f:Str}{nr:Str}(hf:kI fn nw nr ie se){xC xE:Addr}(X:wK C xC xE)(bs:Base C){af:Addr}{o:Obj}{pm code doc:Value}(ho:C.g0.get? af=some o)(hd:o.data= .func (docDef f fn.params fn.body fn.scope pm code doc))(hc:C.g0.CodeRec code f)
  {outer:List Env} (g0:Gr C s0) (hP0:C.P∈Y') (bV:∀env,yW (n+2) (A.deeper env)) (kM:A.frames=some outer) (hfl:dQ s0.heap outer) (hfY:∀b∈zQ outer,b∈Y') {DB:Addr} (hDY:DB∈Y') (hDP:DB≠C.P) (hDf:DB∉zQ outer) (eB:∃o,s0.heap.get? DB=some o) (aW:af≠C.P)
  {st:Nat->t9} {its:List D} (xo:∀j d,its[j]? =some d->∃t,d= .str t/\y6 C r fn nw ie se (st j) t (st (j+1))):
  dk C (n+2) A af (HI C af DB o outer st s0) its (fun b=>b=DB\/b∈zQ outer) s0 Y' where
 zf:=fun b h=>h.elim (fun h=>h▸hDY) (hfY b)
 fobj:=fun Y j v s h=>⟨o,_,h.f,hd⟩
 call:=fun fP Y j va vd d s Q ha g hP hY hYs rZ hI hj hrd hk hfe nV hln hns q=>by
  refine jH (xo j d hj) ?_;rintro t rfl hs
  have e1:st j=((st j).1,(st j).2.1,(st j).2.2):=rfl
  have e2:st (j+1)=((st (j+1)).1,(st (j+1)).2.1,(st (j+1)).2.2):=rfl
  rw[e1,e2] at hs
  have ax:DB≠fP.locals:=fun e=>by obtain⟨oo,h⟩:=eB;rw[e,hln] at h;exact zn h
  have qu:∀b,b∈zQ (fP::outer)↔b=fP.locals\/b∈zQ outer:=fun b=>by rw[zQ,List.filterMap_cons,hfe];exact List.mem_cons
  refine jF0 S hf X bs ho hd hc (outer:=fP::outer) g hP hY hYs ha (Around.frames_deeper kM) (fun x hx=> ?_) (fun b hb=> ?_) hI.dY hDP (fun hm=> ?_) hI.v hrd hI.bk hs fun v' s' kw ns rv bk=> ?_
  ·rcases j0.mp hx with rfl|hx
   ·obtain⟨m,hm⟩:=hns
    exact⟨by rw[hk];decide,_,m,hfe,hm⟩
   ·obtain⟨z1,L,m,z2,z3⟩:=hfl x hx
    exact⟨z1,L,m,z2,hI.ns L (List.mem_filterMap.mpr ⟨x,hx,z2⟩) m z3⟩
  ·rcases (qu b).mp hb with rfl|hb
   ·exact nV
   ·exact hI.fY b hb
  ·rcases (qu DB).mp hm with e|hm
   ·exact ax e
   ·exact hDf hm
  ·have nf:¬(af=DB\/af∈zQ (fP::outer)):=fun hz=>by
    have i8:∀m,¬s.heap.Ns af m:=fun m h=>by
     refine jj h fun oo es ep h1 h2 _=> ?_;clear h
     rw[hI.f] at h1;replace h1:=j6 h1;subst h1;rw[hd] at h2;cases h2
    rcases hz with hz|hz
    ·obtain⟨ob,ks,vs,ds,b1,⟨es,ep,_,b2,_⟩,_⟩:=hI.bk
     rw[<-hz,hI.f] at b1;replace b1:=j6 b1;subst b1;rw[hd] at b2;cases b2
    ·rcases (qu af).mp hz with hz|hz
     ·obtain⟨m,hm⟩:=hns
      exact i8 m (hz▸hm)
     ·obtain⟨m,hm⟩:=hfl.mem hz
      exact i8 m (hI.ns af hz m hm)
   refine q v' s' (kw.mono fun b hb=> ?_) (fun m hm=>ns _ m (Ne.symm ax) hm) ⟨rv,bk,kw.heap aW nf hI.f,hI.fY,hI.dY,fun b hb m hm=>ns b m (fun e=>hDf (e▸hb)) (hI.ns b hb m hm),kw.exs g.tab hI.db⟩
   rcases hb with hb|hb
   ·exact .inl (.inl hb)
   ·rcases (qu b).mp hb with hb|hb
    ·exact .inr hb
    ·exact .inl (.inr hb)
 kw:=fun Y j v s s' Z hI kw hZ hP t=>by
  have iN:∀b,(∃o,s0.heap.get? b=some o)->¬Z b:=fun b ⟨oo,h⟩ hz=>by rw[(hZ b hz).2] at h;exact zn h
  have ae:∀b,Z b->b∈Y:=fun b hz=>(hZ b hz).1
  refine⟨RD.kw kw hP ae hI.v,hI.bk.kw kw hP ae hDP (iN _ eB),kw.heap aW (iN _ ⟨o,g0.keep _ _ ho⟩) hI.f,hI.fY,hI.dY,fun b hb m hm=> ?_,kw.exs t hI.db⟩
  have h1:=hI.ns b hb m hm
  refine uB (id hm) fun oo es ep h2 _=> ?_
  exact h1.at fun o' e=>kw.heap (jg t h1) (iN b ⟨oo,h2⟩) e
 more:=fun Y Y2 J j v s s' hI kp hn he h1 h2 hP=>by
  refine⟨?_,hI.bk.weak (fun o' e=>kp.heap hDP e) fun vs ds h=>q5.moreL kp hP hn h1 h,kp.heap aW hI.f,fun b hb=>h2 b (hI.fY b hb),h2 _ hI.dY,fun b hb m hm=> ?_,?_⟩
  ·have:=q5.moreL kp hP hn h1 (.cons hI.v .nil)
   cases this with|cons h _=>exact h
  ·have h1:=hI.ns b hb m hm
   refine h1.at fun o' e=>kp.heap (fun e'=> ?_) e
   exact jg g0.tab hm e'
  ·obtain⟨oo,h⟩:=hI.db
   exact⟨oo,kp.heap hDP h⟩
 last:=fun Y J j v s s' hI kj hJ rZ hP=>by
  have qQ:∀a∈Y,a∈J++Y:=fun a ha=>jz _ ha
  have tF:∀a∈J,a∈J++Y:=fun a ha=>xn _ ha
  have lT:∀b,(∃o,s0.heap.get? b=some o)->b∉J:=fun b ⟨oo,h⟩ hz=>by rw[(hJ b hz).1] at h;exact zn h
  refine⟨?_,hI.bk.weak (fun o' e=>kj.heap (lT _ eB) e) fun vs ds h=>q5.lastJ kj qQ tF h,kj.heap (lT _ ⟨o,g0.keep _ _ ho⟩) hI.f,fun b hb=>rZ b (hfY b hb),rZ _ hDY,fun b hb m hm=> ?_,?_⟩
  ·have:=q5.lastJ kj qQ tF (.cons hI.v .nil)
   cases this with|cons h _=>exact h
  ·have h1:=hI.ns b hb m hm
   refine uB (id hm) fun oo es ep h2 _=> ?_
   exact h1.at fun o' e=>kj.heap (lT b ⟨oo,h2⟩) e
  ·obtain⟨oo,h⟩:=hI.db
   exact⟨oo,kj.heap (lT _ eB) h⟩
 sub:=fun Y Y2 j v s hI h1 h2=>⟨Mine.R.mono (jh h1) hI.v,hI.bk.weak (fun _ e=>e) fun vs ds h=>Rs.mono (jh h1) h,hI.f,fun b hb=>h2 b (hfY b hb),h2 _ hDY,hI.ns,hI.db⟩
variable{m:Nat}{r':Ev}
theorem jG7(S:wt C n r)(S':SE C m r'){f:Str}{nr:Str}{te:Expr}(hf:kI fn nw nr ie se){xC xE:Addr}(X:wK C xC xE){af:Addr}{o:Obj}{pm code doc:Value}(ho:C.g0.get? af=some o)(hd:o.data= .func (docDef f fn.params fn.body fn.scope pm code doc))(hc:C.g0.CodeRec code f)(hmf:C.mg f=some (.ref af))(mU:(f==("__debug__":Str))=false)
  (fs:FS C m k A env Y [] l s) (room:yA (n+2) A) (kM:A.frames=some [env]) (uq:env.frame=some env.locals) (hx:env.kindOf x=some .local\/env.kindOf x=some .cell) (iX:env.kindOf f=some .globalImplicit) (hkr:env.kindOf "reduce"=some .globalImplicit)
  {its:List D} {st:Nat->t9} (ht:r'.E k env.scope (jV l) te=some (.list its)) (sD:isStarred te=false) (h0:st 0=([],[],[]))
  (xo:∀j d,its[j]? =some d->∃t,d= .str t/\y6 C r fn nw ie se (st j) t (st (j+1))) {p0 p1 p2 p3 p4 p5 p6 p7 p8:Pos} {Q:vo} {E:q4}
  (q:∀s',KW C (ZO [] env) s s'->FS C m k A env Y [] (jA l x (.val (.tup [.dictS (st its.length).1,.list (st its.length).2.1,.list (st its.length).2.2]))) s'->Q .next s'):
  wpAny C.M A (exec (.Assign [.Name x p0] (.Call (.Name "reduce" p1) [.Name f p2,te,.Tuple [.Dict [] [] p3,.List [] p4,.List [] p5] 0 p6] [] p7) p8) env) Q E s:=by
 have bs:=fs.pre.bs
 obtain⟨fnr,ar,orr,pmr,coder,docr,dt,ai,tI,nt,oi,rf,hmr,hor,hdr,fD,_⟩:=bs.red
 have t0:=fs.pre.gr.tab
 refine wpAny_Assign_Name ?_ (by rfl)
 refine Call_Name rfl (ne (ql fs.pre hkr hmr kD ?_))
 refine callWith_function (o:=orr) (fd:={ docDef "reduce" fnr.params fnr.body fnr.scope pmr coder docr with defaults:= .ref dt }) (evalArgs_plain (spliced_cons (ne (ql fs.pre iX hmf mU ?_))))
 refine args_cons (ne (S'.at fs.pre ht fun sv s1 zE p1 rv=> ?_)) (jN sD)
 have qP:=fs.kp zE
 refine args_cons (triple rfl rfl rfl (wpAny_Dict_empty ?_))
 generalize vI:({ s1 with heap:=s1.heap.push { cls:= .type "dict",data:= .dict #[] } }:Shared)=s2
 generalize hDB:s1.heap.objs.size=DB
 have tY:s1.heap.get? DB=none:=hDB▸qy _
 have yf:KP C s1 s2:=by rw[<-vI];exact KP.push (tk:=s1.toks) nL
 have hD2:s2.heap.get? DB=some { cls:= .type "dict",data:= .dict #[] }:=by rw[<-vI,<-hDB];exact Heap.get?_push_size _ rfl
 have hDY:DB∉Y:=fun hm=>by obtain⟨oo,e⟩:=qP.pre.hYs DB (by exact hm);rw[tY] at e;exact zn e
 have hDP:DB≠C.P:=fun e=>hDY (e▸fs.hP)
 have xa:FS C m k A env ([DB]++Y) [] l s2:=qP.moreJ yf (fun a ha=>by replace ha:=j4.mp ha;subst ha;exact tY) fun a ha=>by replace ha:=j4.mp ha;subst ha;exact⟨_,hD2⟩
 refine wpAny_List (args_nil ⟨by simp,?_⟩)
 generalize hs3:({ s2 with heap:=s2.heap.push { cls:= .type "list",data:= .seq ([]:List Value).toArray } }:Shared)=s3
 have fx:KP C s2 s3:=by rw[<-hs3];exact KP.push (tk:=s2.toks) nL
 have r3:RD C s3.heap ([DB]++Y) (.ref s2.heap.objs.size) (.list []):=by
  rw[<-hs3]
  exact .list (n:=0) (xI (tk:=s2.toks) (o:=jc [] 0) (by exact xa.pre.lt) rfl) .nil
 have yB:=xa.kp fx
 refine wpAny_List (args_nil ⟨by simp,?_⟩)
 generalize hs4:({ s3 with heap:=s3.heap.push { cls:= .type "list",data:= .seq ([]:List Value).toArray } }:Shared)=s4
 have pq:KP C s3 s4:=by rw[<-hs4];exact KP.push (tk:=s3.toks) nL
 have r4:RD C s4.heap ([DB]++Y) (.ref s3.heap.objs.size) (.list []):=by
  rw[<-hs4]
  exact .list (n:=0) (xI (tk:=s3.toks) (o:=jc [] 0) (by exact yB.pre.lt) rfl) .nil
 have yw:=yB.kp pq
 have tM:KP C s4 { s4 with heap:=s4.heap.push (xt [.ref DB,.ref s2.heap.objs.size,.ref s3.heap.objs.size] 0) }:=KP.push (tk:=s4.toks) nL
 have r5:=oR (s3:=s4) (DB:=DB) (Yf:=[DB]++Y) (by exact yw.pre.hP) (by exact yw.pre.lt) (RD.kp pq (by exact yB.pre.hP) r3) r4
 have hv5:(s4.heap.push (xt [.ref DB,.ref s2.heap.objs.size,.ref s3.heap.objs.size] 0)).get? s4.heap.objs.size=some (xt [.ref DB,.ref s2.heap.objs.size,.ref s3.heap.objs.size] 0):=Heap.get?_push_size _ rfl
 have kW:=yw.kp tM
 refine args_nil ⟨⟨kW.pre.gr.keep _ _ hor,hdr⟩,?_⟩
 refine(?_:wpAny C.M A (call (.ref ar) [.ref af,sv,.ref s4.heap.objs.size]) _ E { s4 with heap:=s4.heap.push (xt [.ref DB,.ref s2.heap.objs.size,.ref s3.heap.objs.size] 0) })
 generalize hs5:({ s4 with heap:=s4.heap.push (xt [.ref DB,.ref s2.heap.objs.size,.ref s3.heap.objs.size] 0) }:Shared)=s5 at tM kW
 rw[show s4.heap.push (xt [.ref DB,.ref s2.heap.objs.size,.ref s3.heap.objs.size] 0)=s5.heap by rw[<-hs5]] at r5 hv5
 have mf:KP C s2 s5:=(fx.trans pq).trans tM
 have hD5:=mf.heap hDP hD2
 have mI:Pre C m k A env ([DB]++Y) (jV l) s5:=by have:=kW.pre;exact this
 have aW:af≠C.P:=fun e=>by rw[e,bs.hP] at ho;exact zn ho
 have nV:env.locals∈Y:=fs.wY _ jk
 have ax:DB≠env.locals:=fun e=>hDY (e▸nV)
 have fN:zQ [env]=[env.locals]:=by rw[zQ,List.filterMap_cons,uq];rfl
 have fc:=jFz (outer:=[env]) (A:=A) (s0:=s5) (Y':=[DB]++Y) S hf X bs ho hd hc mI.gr mI.hP (fun env=>room.deeper) kM (fun x hx=>by
  replace hx:=j4.mp hx;subst hx
  obtain⟨mm,hmm⟩:=mI.fm.ns
  exact⟨by rw[fs.pre.eo.kind];decide,_,mm,uq,hmm⟩) (fun b hb=>by rw[fN] at hb;(replace hb:=j4.mp hb);subst hb;exact jz _ nV) (DB:=DB) (by simp) hDP (by rw[fN];simpa using ax) ⟨_,hD5⟩ aW xo
 have ig:BK C s5 ([DB]++Y) DB (st 0).1:=by
  refine jH (Heap.dictOf_iff.mp (Heap.DictOf.new (knd:=strKind C.prog C.w) s1.heap)) fun od u9 br=> ?_
  have hod2:s2.heap.get? DB=some od:=by rw[<-vI,<-hDB];exact u9
  exact⟨od,[],[],[],mf.heap hDP hod2,br,rfl,.nil,by rw[h0];rfl⟩
 have aH:RD C s5.heap ([DB]++Y) sv (.list its):=by
  have h2:q5 C s2.heap ([DB]++Y) [sv] [.list its]:=q5.moreL (J:=[DB]) yf fs.hP (fun a ha=>by replace ha:=j4.mp ha;subst ha;exact tY) (fun a ha=>jq.mp ha) (.cons (by exact rv) .nil)
  refine zB h2.un fun _ _ e h2 _=> ?_
  cases e
  exact RD.kp mf mI.hP h2
 refine jAj (n:=n+2) (Y:=[DB]++Y) (its:=its) (ds:=its) (v0:= .ref s4.heap.objs.size) bs mI.gr mI.hP mI.hY mI.hYs hmr room fc ⟨by rw[h0];exact r5,ig,mI.gr.keep _ _ ho,fun b hb=>by rw[fN] at hb;(replace hb:=j4.mp hb);subst hb;exact jz _ nV,by simp,fun _ _ _ h=>h,⟨_,hD5⟩⟩ aH (.inl ⟨rfl,rfl,.inl ⟨_,_,rfl,hv5,.inr rfl⟩⟩) fun v6 s6 ny hG=> ?_
 have fs5':FS C m k A env ([DB]++Y) [] l s5:=kW
 have rA:FS C m k A env ([DB]++Y) [] l s6:=fs5'.out' ny (fun b hb=>by
  rcases hb with hb|hb
  ·simp[hb]
  ·rw[fN] at hb;(replace hb:=j4.mp hb);subst hb;exact jz _ nV) (fun _=>hG.ns env.locals (by rw[fN];exact x9)) fun p hp hz=>by
  rcases hz with hz|hz
  ·exact hDY (hz▸fs.cY p hp)
  ·rw[fN] at hz;(replace hz:=j4.mp hz);exact fs.pre.fm.ne hp hz
 have dz:FS C m k A env Y [] l s6:=rA.lastJ (KJ.refl s6) (fun a ha=>by replace ha:=j4.mp ha;subst ha;exact hDY) fs.hP fs.cY fs.wY
 have qQ:∀a∈Y,a∈[DB]++Y:=fun a ha=>jz _ ha
 have rt:RD C s6.heap Y v6 (.tup [.dictS (st its.length).1,.list (st its.length).2.1,.list (st its.length).2.2]):=by
  refine jj hG.v.tup_inv ?_;rintro at' vs mm rfl bD rs
  obtain⟨hov1,hov2⟩:=jM bD
  refine yz rs.un3 ?_;rintro u1 u2 u3 rfl r1 r2 r3
  have e1:=Mine.R.opq_inv r1
  subst e1
  obtain⟨od,ks,ws,ds,b1,b2,b3,b4,b5⟩:=hG.bk
  rw[b5]
  refine .tup (jX hov1 fun h=>hov2 (qQ _ h)) (.cons (.dictS (jX b1 hDY) b2 b3 (Rs.mono (jh qQ) b4) fun e=> ?_) (.cons (Mine.R.mono (jh qQ) r2) (.cons (Mine.R.mono (jh qQ) r3) .nil)))
  obtain⟨oo,hoo⟩:=Option.isSome_iff_exists.mp bs.sys
  have:=qP.pre.gr.keep _ oo hoo
  rw[<-e,tY] at this;exact zn this
 refine ne (dz.assign hx (by exact rt) fun s8 sk bR=>q s8 ?_ bR)
 have cx:KW C (ZO [] env) s s6:=(KP.kw ((zE.trans yf).trans mf) (Z:=ZO [] env)).transNew ny fun b hb=>by
  rcases hb with hb|hb
  ·exact .inr (hb▸xX zE.kw t0 tY (Z:=fun _=>False))
  ·rw[fN] at hb;(replace hb:=j4.mp hb);subst hb;exact .inl (jz _ jk)
 exact cx.trans sk
end
section
variable{C:Cx}{n:Nat}{r:Ev}{k:Bool}{A:Around}{env:Env}{Y W:List Addr}{l:Loc}{s s' gS s1:Shared}
abbrev RP(C:Cx)(vs:List Value)(ds:List D):Prop:=Rs C.prog C.w (fun _=>none) vs ds
theorem o8{H:HV}{vs:List Value}{ds:List D}(h:Rs C.prog C.w H vs ds):∀{xs:List Str},strs? ds=some xs->RP C vs ds:=
 h.ind (P:=fun vs ds=>∀{xs:List Str},strs? ds=some xs->RP C vs ds) (fun _=> .nil) fun v d vs ds r _ ih xs e=>by
  refine jH (asStrB (show (d.asStr?.bind fun i=>(strs? ds).map (i::·))=some xs from e)) ?_;rintro x rfl e
  refine mE e fun ys h1 h2=> ?_
  obtain⟨t,rfl⟩:=r.str_inv
  exact .cons (.str x t) (ih h1)
inductive LL (C:Cx) (h:Heap):List Addr->List D->Prop
 |nil:LL C h [] []
 |cons {a:Addr} {ws:List Value} {m:Nat} {ds:List D} {hs:List Addr} {a0:List D}:h.get? a=some (jc ws m)->RP C ws ds->LL C h hs a0->LL C h (a::hs) (.list ds::a0)
theorem LL.keep{h h':Heap}{hs:List Addr}{a0:List D}(l:LL C h hs a0):(∀a∈hs,∀o,h.get? a=some o->h'.get? a=some o)->LL C h' hs a0:=by
 induction l with
 |nil=>exact fun _=> .nil
 |cons e r t ih=>exact fun k=> .cons (k _ jk _ e) r (ih fun a ha=>k a (qO _ ha))
theorem LL.snoc{h:Heap}{a:Addr}{ws:List Value}{m:Nat}{ds:List D}(e:h.get? a=some (jc ws m))(r:RP C ws ds){hs:List Addr}{a0:List D}(l:LL C h hs a0):LL C h (hs++[a]) (a0++[.list ds]):=by
 induction l with
 |nil=>exact .cons e r .nil
 |cons e' r' t ih=>exact .cons e' r' ih
theorem LL.ex{h:Heap}{hs:List Addr}{a0:List D}(l:LL C h hs a0):∀a∈hs,∃o,h.get? a=some o:=by
 induction l with
 |nil=>exact fun a ha=>nomatch ha
 |cons e r t ih=>exact List.forall_mem_cons.mpr ⟨⟨_,e⟩,ih⟩
theorem LL.append{h:Heap}{z6:List Addr}{b0:List D}(y:LL C h z6 b0){hs:List Addr}{a0:List D}(l:LL C h hs a0):LL C h (hs++z6) (a0++b0):=by
 induction l with
 |nil=>exact y
 |cons e r t ih=>exact .cons e r ih
def rV(C:Cx)(DD:Addr)(Y:List Addr)(h:Heap)(a0:List D):Prop:=∃(hs:List Addr) (m:Nat),h.get? DD=some (jc (hs.map .ref) m)/\LL C h hs a0/\hs.Pairwise (·<·)/\∀a∈hs,DD<a/\a∉Y
theorem accFr(DD:Addr):uF DD (rV C DD) where
 frame:=fun Y h h' a0 x k1 k2=>by
  refine uf x fun hs m e ll pw al=> ?_;clear x
  exact⟨hs,m,k1 _ e,ll.keep fun a ha o e=>k2 a o (al a ha).2 e,pw,al⟩
 more:=fun Y h h' a0 I x hI k=>by
  refine uf x fun hs m e ll pw al=> ?_;clear x
  refine⟨hs,m,k _ _ e,ll.keep fun a ha o e=>k a o e,pw,fun a ha=>⟨(al a ha).1,fun hm=> ?_⟩⟩
  rcases j0.mp hm with rfl|hm
  ·obtain⟨o,e'⟩:=ll.ex _ ha
   rw[hI] at e';exact zn e'
  ·exact(al a ha).2 hm
 sub:=fun Y Y' h a0 z6 x=>by
  refine uf x fun hs m e ll pw al=> ?_;clear x
  exact⟨hs,m,e,ll,pw,fun a ha=>⟨(al a ha).1,fun hm=>(al a ha).2 (z6 a hm)⟩⟩
def gh(C:Cx)(n:Nat)(k:Bool)(A:Around)(ce:Env)(elt:Expr)(emitD:Loc->Option D):Prop:=
 ∀Y l d s (Q:q4),emitD l=some d->Pre C n k A ce Y l s->
  (∀a ws m ds s',KP C s s'->d= .list ds->(∀b,(∃o,s.heap.get? b=some o)->b<a)->s'.heap.get? a=some (jc ws m)->RP C ws ds->Q (.ref a) s')->wpAny C.M A (eval elt ce) Q NE s
theorem emitFr{ce:Env}{DD:Addr}{elt:Expr}{emitD:Loc->Option D}(F:gh C n k A ce elt emitD):gi C n k A ce DD (rV C DD) emitD (do let _<-call (.builtin "list.append") [.ref DD,<-eval elt ce]):=by
 intro Y l d s a0 Q hd p own hDY uA hlen q
 refine wpAny_bind (F Y l d s _ hd p fun a ws m ds s1 kp wq vF ho hr=> ?_)
 subst wq
 refine uf uA fun hs m0 h1 ll pw al=> ?_;clear uA
 have hDP:DD≠C.P:=own.ne DD x9
 have h1':=kp.heap hDP h1
 have hPY:=p.hP
 have nP:∀b,b∉Y->b≠C.P:=fun b hb e=>hb (e▸hPY)
 have sh:LL C s1.heap hs a0:=ll.keep fun b hb o e=>kp.heap (nP b (al b hb).2) e
 have hl:hs.length=a0.length:=by
  clear h1 h1' pw al sh hlen q
  induction ll with
  |nil=>rfl
  |cons _ _ _ ih=>simp[ih]
 have fK:=own.kw p.gr.tab (KP.kw kp (Z:=fun _=>False))
 refine wpAny_bind (wpAny_list_append_plain (items:=(hs.map Value.ref).toArray) ⟨m0,h1'⟩ (fun h' hp mQ=> ?_) (by
  have:lim=1000000:=rfl
  exact xJ (by simp;lia:(hs.map Value.ref).toArray.size<=1000000) kD))
 obtain⟨m',hp⟩:=hp
 have kw:KW C (·=DD) s1 { s1 with heap:=h' }:=KW.one nL rfl hDP (fK.code DD x9) (fun b o hb e=>by rw[mQ.2 b hb];exact e) ⟨_,hp⟩
 have hDa:DD<a:=vF DD ⟨_,h1⟩
 refine wpAny_pure (q _ ((KP.kw kp).trans kw) ⟨hs++[a],m',?_,?_,?_,fun b hb=> ?_⟩)
 ·have:((hs.map Value.ref).toArray.push (.ref a))=((hs++[a]).map Value.ref).toArray:=by simp
  rw[this] at hp
  exact hp
 ·refine LL.snoc (m:=m) ?_ hr (sh.keep fun b hb o e=> ?_)
  ·refine(?_:h'.get? a=_)
   rw[mQ.2 a (Nat.ne_of_gt hDa)];exact ho
  ·refine(?_:h'.get? b=_)
   rw[mQ.2 b (Nat.ne_of_gt (al b hb).1)];exact e
 ·refine List.pairwise_append.mpr ⟨pw,List.pairwise_singleton _ _,fun b hb c hc=> ?_⟩
  replace hc:=j4.mp hc;subst hc
  exact vF b (ll.ex b hb)
 ·rcases jq.mp hb with hb|hb
  ·exact al b hb
  ·replace hb:=j4.mp hb;subst hb
   exact⟨hDa,fun hm=>Nat.lt_irrefl _ (vF _ (p.hYs _ hm))⟩
noncomputable def kP:D->Option D
 | .list ds=>if (strs? ds).isSome/\ds.length<=lim then some (.list ds) else none
 |_=>none
variable{jS:Scope}{e:Expr}{g:Comprehension}{gs:List Comprehension}{yi:Sem Value}{emitD:Loc->Option D}{its out:List D}{d dd:D}{o0:Obj}{gW:Addr->List Addr->Heap->List D->Prop}{emit:Addr->Env->Sem Unit}
theorem jBh(S:SE C n r){ce:Env}{p1 p2:Pos}(hk:ce.kindOf "list"=some .globalImplicit)(xo:isStarred e=false):gh C n k A ce (.Call (.Name "list" p1) [e] [] p2) (fun l'=>(r.E k ce.scope l' e).bind kP):=by
 intro Y l d s Q hd p q
 refine bE hd fun x h1 h2=> ?_
 induction x using cD with
 |list ds=>
  have h2:(if (strs? ds).isSome/\ds.length<=lim then some (D.list ds) else none)=some d:=h2
  revert h2;refine wL fun hc h2=> ?_
  ·replace h2:=j6 h2;subst h2
   obtain⟨xs,nS⟩:=Option.isSome_iff_exists.mp hc.1
   refine Call_Name rfl (xZ (v:= .type "list") p hk kD jBn kD ?_)
   rw[jN xo]
   refine PyProof.Rows.callWith_type (by rfl) (evalArgs_plain (spliced_cons (S.at p h1 fun v s1 k1 p1 r1=>spliced_nil ?_)))
   refine jj r1.list_inv ?_;rintro a vs m rfl ho rs
   refine call_list_seq a (T:="list") (.inl rfl) (jM ho).1 rfl rfl (fun h' c' uo hn=> ?_) (by simp only[List.size_toArray,rs.length];exact sz hc.2)
   have kk:KP C s1 { s1 with heap:=h' }:=KP.of nL uo
   refine q _ vs c' ds _ (k1.trans kk) rfl (fun b ⟨o,hb⟩=> ?_) hn (o8 rs nS)
   obtain⟨o',fE⟩:=k1.some p.gr.tab ⟨o,hb⟩
   exact Heap.lt_size fE
 |_=>cases h2
theorem jBm{pos:Pos}{use:Option (Value->Sem Unit)}{Q:q4}(S:SE C n r)(a1:yW (n+1) A)(K:kJ C n k A env.scope jS e (g::gs) yi emitD out dd o0 gW emit)(p:Pre C n k A env Y l s)
  (h1:r.E k env.scope l g.iter=some d) (h2:ju d=some its) (ok:jm env.scope jS (g::gs)=true) (h:comp r k (jR env.scope jS) emitD (g::gs) (jL jS l) its=some out) (hlen:out.length<=lim)
  (q:∀DD L s',KP C s s'->s.heap.get? L=none->¬jx C s'.heap L->(∃m,s'.heap.Ns L m)->(∀a,DD<=a->s.heap.get? a=none)->DD∉L::Y->gW DD (L::Y) s'.heap out->compPost C.M A NE use Q (.ref DD) L (.ok .next) s'):
  wpAny C.M A (comprehension e jS env pos yi false (eval g.iter env) use) Q NE s:=by
 have oc:=nO ok
 refine wpAny_comprehension_free (g:=g) (gs:=gs) K.cl (vz (oc.set g jk) env) (zZ fun q hq hf=>p.eo.cells q.1 (oc.free q hq hf)) oc.kind (fun x hx hl=>qm oc.nodup (hl▸hx)) ?_
 refine S.at p h1 fun v s1 zE p1 rv=> ?_
 refine yL p1.a.handled p1.lt rv h2 fun h' hk it=> ?_
 refine K.new _ _ ?_
 refine jH it.obj fun oi uk _=> ?_
 have vF:s1.heap.objs.size<h'.objs.size:=Heap.lt_size uk
 have hn:s1.heap.get? s1.heap.objs.size=none:=qy _
 have bQ:h'.get? h'.objs.size=none:=qy _
 have hD:s1.heap.get? h'.objs.size=none:=none_of fun⟨o,e⟩=>by rw[hk _ o e] at bQ;cases bQ
 have cz:gT C A (h'.objs.size::s1.heap.objs.size::Y) s1.heap.objs.size its (h'.push o0):=it.more (Z:=[h'.objs.size]) (fun b hb=>by replace hb:=j4.mp hb;subst hb;exact bQ) fun b o e=>wW _ e
 have u9:(h'.push o0).get? h'.objs.size=some o0:=Heap.get?_push_size _ K.live
 refine jEd (DD:=h'.objs.size) (I:=s1.heap.objs.size) (Acc:=gW h'.objs.size) S a1 oc (K.is h'.objs.size) (K.acc _) (fun ce qJ=>K.em _ ce qJ) p1 (fun b o e=>wW _ (hk b o e)) hn hD (Nat.ne_of_lt vF) ⟨_,u9⟩ cz (K.nil _ _ _ u9) h hlen fun L h4 tk s' Z ht k4 kl hZ hL oA ir hns dG=> ?_
 have kp:KP C s s':=kpNew zE p.gr.tab ht k4 kl hn hZ hL oA (Heap.SameBut.refl ..)
 have hDY:h'.objs.size∉L::Y:=fun hm=>by
  rcases j0.mp hm with e|hm
  ·exact ir e.symm
  ·obtain⟨o,e⟩:=p1.hYs _ hm;rw[hD] at e;exact zn e
 have iq:s.heap.get? L=none:=none_of fun ho=>by
  obtain⟨o,e⟩:=zE.some p.gr.tab ho
  rw[hL] at e;exact zn e
 refine q _ L s' kp iq oA hns (fun a ha=>none_of fun ho=> ?_) hDY dG
 obtain⟨o,e⟩:=zE.some p.gr.tab ho
 exact absurd (Heap.lt_size (hk a o e)) (Nat.not_lt.mpr ha)
theorem RP.rs{H:HV}{vs:List Value}{ds:List D}(h:RP C vs ds):Rs C.prog C.w H vs ds:=Rs.mono (fun a o e=>by exact zn e) h
theorem LL.rs{h:Heap}{hs:List Addr}{a0:List D}(l:LL C h hs a0):(∀a∈hs,a∉Y)->q5 C h Y (hs.map .ref) a0:=by
 induction l with
 |nil=>exact fun _=> .nil
 |cons e r t ih=>exact fun k=> .cons (.list (jX e (k _ jk)) (RP.rs r)) (ih fun a ha=>k a (qO _ ha))
theorem jF3{elt:Expr}{pos:Pos}{Q:q4}(S:SE C n r)(a1:yW (n+1) A)(F:∀ce,ce.scope=jR env.scope jS->gh C n k A ce elt emitD)(p:Pre C n k A env Y l s)
  (h1:r.E k env.scope l g.iter=some d) (h2:ju d=some its) (ok:jm env.scope jS (g::gs)=true) (h:comp r k (jR env.scope jS) emitD (g::gs) (jL jS l) its=some out) (hlen:out.length<=lim)
  (q:∀DD hs m s',KP C s s'->s'.heap.get? DD=some (jc (hs.map .ref) m)->LL C s'.heap hs out->(∀a∈DD::hs,s.heap.get? a=none)->(DD::hs).Pairwise (·<·)->Q (.ref DD) s'):
  wpAny C.M A (eval (.ListComp elt (g::gs) jS pos) env) Q NE s:=by
 have oc:=nO ok
 have h0:g.is_async=0:=oc.sync g jk
 rw[arm_eval_ListComp]
 refine(?_:wpAny C.M A (comprehension (.ListComp elt (g::gs) jS pos) jS env (firstIterPos (g::gs) pos) (newList []) (firstAsync (g::gs)) (firstIter (g::gs) env)) Q NE s)
 have tR:firstAsync (g::gs)=false:=by cases g;simp only at h0;subst h0;rfl
 have tQ:firstIter (g::gs) env=eval g.iter env:=by cases g;rfl
 rw[tR,tQ]
 have K:kJ C n k A env.scope jS (.ListComp elt (g::gs) jS pos) (g::gs) (newList []) emitD out (.list out) (jc [] 0) (rV C)
  (fun DD ce=>do let _<-call (.builtin "list.append") [.ref DD,<-eval elt ce]):=
  { cl:=rfl
    is:=fun DD=>vk fun g hg=>oc.sync g hg
    acc:=fun DD=>accFr DD
    em:=fun DD ce qJ=>emitFr (F ce qJ)
    new:=fun s Q h=>wpAny_newList h
    live:=rfl
    nil:=fun h Y DD ho=>⟨[],0,ho,.nil,.nil,fun a ha=>nomatch ha⟩
    fin:=fun h Y DD ⟨hs,m,ho,ll,pw,al⟩ hY _=> .list (jX ho hY) (ll.rs fun a ha=>(al a ha).2) }
 refine jBm (use:=none) S a1 K p h1 h2 ok h hlen fun DD L s' kp hL oA hns dF hDY dG=> ?_
 obtain⟨mm,hns⟩:=hns
 refine uf dG fun hs m ho ll pw al=> ?_;clear dG
 refine⟨mm,hns,fun h5 mQ=> ?_⟩
 have hDL:DD≠L:=fun e=>hDY (e▸jk)
 refine q DD hs m _ (kp.newOff p.gr.tab hL oA mQ) ?_ (ll.keep fun a ha o e=> ?_) (fun a ha=> ?_) (List.pairwise_cons.mpr ⟨fun a ha=>(al a ha).1,pw⟩)
 ·refine(?_:h5.get? DD=_)
  rw[mQ.2 DD hDL];exact ho
 ·refine(?_:h5.get? a=_)
  rw[mQ.2 a fun e=>(al a ha).2 (e▸jk)];exact e
 ·rcases j0.mp ha with rfl|ha
  ·exact dF _ nL
  ·exact dF _ (Nat.le_of_lt (al a ha).1)
end
section
variable{C:Cx}{n:Nat}{r:Ev}{k:Bool}{A:Around}{env:Env}{Y W:List Addr}{OL:yV}{l:jQ}{s s' gS s1:Shared}
theorem jJu{a:Addr}{c x:Str}{ds:List D}{vs:List Value}{m:Nat}{Q:vo}{p1 p2 p3 p4 p5 p6 p7 p8 p9 mJ:Pos}(fs:FS C n k A env Y OL l s)(a1:yW (n+1) A)(mi:l "seq"=some (.val (.opq (.ref a))))(pP:l "candidate"=some (.val (.str c)))
  (ng:a∈Y) (sP:env.locals≠a) (dG:∀p∈env.cells,p.2≠a) (fF:a≠C.P) (ho:s.heap.get? a=some (jc vs m)) (hr:RP C vs (.str x::ds)) (hlen:ds.length+1<=lim)
  (q:∀s' dI m',KW C (·=a) s s'->FS C n k A env Y OL l s'->s'.heap.get? a=some (jc dI m')->RP C dI (if x=c then ds else .str x::ds)->Q .next s'):
  wpAny C.M A (exec (.If (.Compare (.Subscript (.Name "seq" p1) (.Constant (.int 0) 0 p2) p3) [.Eq] [.Name "candidate" p4] p5) [.Delete [.Subscript (.Name "seq" p6) (.Constant (.int 0) 0 p7) p8] p9] [] mJ) env) Q NE s:=by
 have bD:view s.heap [] a=some (jc vs m):=jX ho (by simp)
 have hRD:RD C s.heap [] (.ref a) (.list (.str x::ds)):= .list bD (RP.rs hr)
 refine wpAny_If (wpAny_isTrue_Compare1 (Subscript_ (xw fs mi kD kD fun v rv=>rU (C:=C) (Y:=[]) fun i s1 k1 r1=> ?_)) (by rfl))
 have e1:=Mine.R.opq_inv rv
 subst e1
 have bF:=k1.heap fF ho
 have hRD1:RD C s1.heap [] (.ref a) (.list (.str x::ds)):= .list (jX bF (by simp)) (RP.rs hr)
 refine jBe (C:=C) (Y:=[]) (a:= .list (.str x::ds)) (b:= .int 0) (d:= .str x) (by
  refine(?_:(if (D.str x::ds).length<=lim then (idx? 0 (D.str x::ds).length).bind ((D.str x::ds)[·]?) else none)=some (.str x))
  rw[if_pos (by exact hlen)]
  have:idx? 0 (D.str x::ds).length=some 0:=by unfold idx?;simp
  rw[this];rfl) hRD1 r1 fun v2 s2 k2 r2=> ?_
 obtain⟨t2,rfl⟩:=r2.str_inv
 have xa:=(fs.kp k1).kp k2
 refine xw xa pP kD kD fun v3 r3=> ?_
 obtain⟨t3,rfl⟩:=r3.str_inv
 refine PyProof.Rows.eq_str (wpAny_truthy_bool ?_)
 have ua:=k2.heap fF bF
 have yf:=k1.trans k2
 by_cases hxc:x=c
 ·rw[if_pos hxc] at q
  rw[show (x==c)=true by simpa using hxc]
  simp only[if_true]
  refine wpAny_execs_cons (wpAny_Delete (wpAny_deleteEach_cons (wpAny_delete_Subscript (xw xa mi kD kD fun v4 r4=>rU (C:=C) (Y:=[]) fun i5 s5 k5 r5=> ?_))))
  have e4:=Mine.R.opq_inv r4
  subst e4
  obtain⟨t5,rfl⟩:=r5.int_inv
  have ho5:=k5.heap fF ua
  have kW:=xa.kp k5
  match vs,hr with
  |v0::ws,.cons h0 px=>
  have hwl:ws.length=ds.length:=px.length
  have jw:lim=1000000:=rfl
  refine wpAny_delItem_plain (items:=(v0::ws).toArray) (k:=0) ⟨m,ho5⟩ kD (by unfold seqIndex?;simp) (fun h' hp hs=> ?_) (xJ (by simp;lia:(v0::ws).toArray.size<=1000000) kD)
  obtain⟨m',hp⟩:=hp
  have iP:¬jx C s5.heap a:=fun hc=>by
   obtain⟨ps,h1,h2,h3⟩:=kW.pre.gr.tab
   refine qU hc fun tA pos g1 g2=> ?_;clear hc
   rw[h1] at g1;cases g1
   refine ud (h3 pos _ g2) fun cc oc wss t dK tC sJ _=> ?_
   cases dK
   rw[ho5] at tC;replace tC:=j6 tC;subst tC;cases sJ
  have kw:KW C (·=a) s5 { s5 with heap:=h' }:=KW.one (tk:=s5.toks) nL rfl fF iP (fun b o hb e=>by rw[hs.2 b hb];exact e) ⟨_,hp⟩
  have rA:=kW.out kw (fun b hb=>hb▸ng) sP dG
  refine wpAny_deleteEach_nil (wpAny_execs_nil (q _ ws m' ((KP.kw (yf.trans k5)).trans kw) rA ?_ px))
  have e6:(v0::ws).toArray.eraseIdxIfInBounds 0=ws.toArray:=by simp
  rw[e6] at hp
  exact hp
 ·rw[if_neg hxc] at q
  rw[show (x==c)=false by simpa using hxc]
  simp only[Bool.false_eq_true,if_false]
  exact wpAny_execs_nil (q _ vs m yf.kw xa ua hr)
def CT(C:Cx)(H:List Addr)(h:Heap)(cur:Addr->List Str):Prop:=∀a∈H,∃vs m,h.get? a=some (jc vs m)/\RP C vs ((cur a).map .str)
noncomputable def xx(c:Str)(l:List Addr)(cur:Addr->List Str):Addr->List Str:=fun a=>if a∈l/\(cur a).head? =some c then (cur a).tail else cur a
noncomputable abbrev qj(hs:List Addr):List D:=hs.map fun a=> .opq (.ref a)
variable{H:List Addr}
theorem CT.kw{Z:Addr->Prop}{cur:Addr->List Str}(x:CT C H s.heap cur)(kw:KW C Z s s')(hP:∀a∈H,a≠C.P)(hZ:∀a∈H,¬Z a):CT C H s'.heap cur:=fun a ha=>by
 refine qU (x a ha) fun vs m e rr=> ?_
 exact oM vs m (kw.heap (hP a ha) (hZ a ha) e) rr
theorem jF5{c:Str}{hs:List Addr}{cur:Addr->List Str}{j:Nat}{a:Addr}(kL:hs.Nodup)(hj:hs[j]? =some a):
  xx c (hs.take (j+1)) cur=fun b=>if b=a then (if (cur a).head? =some c then (cur a).tail else cur a) else xx c (hs.take j) cur b:=by
 have vF:j<hs.length:=(List.getElem?_eq_some_iff.mp hj).1
 have hga:hs[j]=a:=(List.getElem?_eq_some_iff.mp hj).2
 have qu:∀b,b∈hs.take (j+1)↔b∈hs.take j\/b=a:=fun b=>by
  rw[List.take_succ,hj];simp
 funext b
 unfold xx
 by_cases hb:b=a
 ·subst hb
  have:b∈hs.take (j+1):=(qu b).mpr (.inr rfl)
  simp[this]
 ·rw[if_neg hb]
  have:b∈hs.take (j+1)↔b∈hs.take j:=by rw[qu];simp[hb]
  simp only[this]
theorem jCt{c:Str}{hs:List Addr}{cur:Addr->List Str}{a:Addr}(h:a∉hs):xx c hs cur a=cur a:=by
 unfold xx;rw[if_neg];exact fun h'=>h h'.1
structure DInv(C:Cx)(n:Nat)(k:Bool)(A:Around)(env:Env)(Yl H:List Addr)(OL:yV)(I0:Addr)(l:jQ)(c:Str)(hs:List Addr)(cur:Addr->List Str)(pe:Pos)(s:Shared)(m:Nat)(s1:Shared):Prop where
 ex:∃j l',j+m=hs.length/\FS C n k A env ([I0]++Yl) OL l' s1/\(∀x:Str,x≠"seq"->l' x=l x)/\CT C H s1.heap (xx c (hs.take j) cur)/\SrcR C A (.Name "seq" pe) (q6 OL++([I0]++Yl)) I0 [I0] (qj (hs.drop j)) s1.heap/\
  KW C (fun b=>b=I0\/ZO OL env b\/b∈H) s s1
theorem jJv{I0:Addr}{c:Str}{hs Yl:List Addr}{cur:Addr->List Str}{pe p1 p2 p3 p4 p5 p6 p7 p8 p9 mJ:Pos}{R:Result->Shared->Prop}(fs:FS C n k A env ([I0]++Yl) OL l s)(a1:yW (n+1) A)(hseqk:env.kindOf "seq"=some .local)(pP:l "candidate"=some (.val (.str c)))
  (hH:∀a∈hs,a∈H) (tX:∀a∈H,a∈Yl) (hHW:∀a∈H,a∉q6 OL++jB env) (hHc:∀p∈env.cells,p.2∉H) (dO:∀a∈H,a≠C.P) (kL:hs.Nodup) (hIn:I0∉Yl) (hP:C.P∈Yl) (hc:∀p∈env.cells,p.2∈Yl) (wY:∀a∈jB env,a∈Yl) (oI:Own C [I0] s.heap)
  (jv:∀a∈hs,cur a≠[]) (hlen:∀a∈hs,(cur a).length<=lim) (ct:CT C H s.heap cur) (src:SrcR C A (.Name "seq" pe) (q6 OL++([I0]++Yl)) I0 [I0] (qj hs) s.heap)
  (q:∀s1 s2 l',KW C (fun b=>b=I0\/ZO OL env b\/b∈H) s s1->KJ C [I0] s1 s2->FS C n k A env Yl OL l' s2->(∀x:Str,x≠"seq"->l' x=l x)->CT C H s2.heap (xx c hs cur)->R (.ok .next) s2):
  codeAny C.M A (.forLoop (.Name "seq" pe) (.ref I0) [.If (.Compare (.Subscript (.Name "seq" p1) (.Constant (.int 0) 0 p2) p3) [.Eq] [.Name "candidate" p4] p5) [.Delete [.Subscript (.Name "seq" p6) (.Constant (.int 0) 0 p7) p8] p9] [] mJ] [] env) R s:=by
 refine codeAny_forLoop_any (DInv C n k A env Yl H OL I0 l c hs cur pe s) ?_ hs.length ⟨0,l,by simp,fs,fun _ _=>rfl,fun a ha=>by rw[jCt (by simp)];exact ct a ha,by exact src,KW.refl s⟩
 intro m s1 y0
 obtain⟨j,l1,hm,qP,wu,mD,kQ,gR⟩:=y0
 have t0:=fs.pre.gr.tab
 have tW:I0≠C.P:=oI.ne I0 x9
 have rb:I0≠env.locals:=fun e=>hIn (e▸wY _ jk)
 have iy:∀p∈env.cells,¬p.2=I0:=fun p hp e=>hIn (e▸hc p hp)
 have tF:∀b∈[I0],b∈q6 OL++([I0]++Yl):=fun b hb=>jz _ (xn _ hb)
 have tJ:Own C [I0] s1.heap:=oI.kw t0 gR
 have hIO:¬ZO OL env I0:=fun hz=>by
  rcases jq.mp hz with h|h
  ·refine lE h fun p hp e=> ?_
   exact fs.nY p hp (by rw[e];simp)
  ·exact hIn (wY _ h)
 have hC:I0∉H:=fun h=>hIn (tX _ h)
 have nE:∀{α:Type} {t:Sem α} {Q:α->Shared->Prop} {s:Shared},wpAny C.M A t Q NE s->wpAny C.M A t Q (notedBy C.M A env fun e s'=>R (.error e) s') s:=fun h=>ne h
 generalize hd:hs.drop j=x0;induction x0 using cL with
 |nil=>
  rw[hd] at kQ
  refine nE (kQ.done fun h' tk ht hk=> ?_)
  have kj:KJ C [I0] s1 { s1 with heap:=h',toks:=tk }:=KJ.of ht tJ.ne tJ.code hk
  have hj:hs.length<=j:=List.drop_eq_nil_iff.mp hd
  refine wpAny_execs_nil (q s1 _ l1 gR kj (qP.lastJ kj (fun a ha=>by replace ha:=j4.mp ha;subst ha;exact hIn) hP hc wY) wu fun a ha=> ?_)
  rw[List.take_of_length_le hj] at mD
  refine qU (mD a ha) fun vs m' e rr=> ?_
  exact oM vs m' (kj.heap (fun hm=>by replace hm:=j4.mp hm;exact hC (hm▸ha)) e) rr
 |cons a as=>
  rw[hd] at kQ
  have vF:j<hs.length:=by
   rcases Nat.lt_or_ge j hs.length with h|h
   ·exact h
   ·rw[List.drop_of_length_le h] at hd;cases hd
  have lX:hs[j]? =some a:=by
   have:=List.drop_eq_getElem_cons vF
   rw[hd] at this
   injection this with h1 h2
   rw[h1];simp[vF]
  have wq:hs.drop (j+1)=as:=by
   have:=List.drop_eq_getElem_cons vF
   rw[hd] at this
   injection this with h1 h2
   exact h2.symm
  have has:a∈hs:=List.mem_of_getElem? lX
  have bN:=hH a has
  have src1':SrcR C A (.Name "seq" pe) (q6 OL++([I0]++Yl)) I0 [I0] (.opq (.ref a)::qj as) s1.heap:=kQ
  refine nE (wpAny_mono (src1'.next tF qP.pre.hYs (Q:=fun v s2=>wpAny C.M A (assign (.Name "seq" pe) env v) (fun _ s₂=>wpAny C.M A (execs [.If (.Compare (.Subscript (.Name "seq" p1) (.Constant (.int 0) 0 p2) p3) [.Eq] [.Name "candidate" p4] p5) [.Delete [.Subscript (.Name "seq" p6) (.Constant (.int 0) 0 p7) p8] p9] [] mJ] env) (fun ff s₃=>match ff with
      | .next| .cont=>∃m',m'<m/\DInv C n k A env Yl H OL I0 l c hs cur pe s m' s₃
      | .brk=>R (.ok .next) s₃
      | .ret v=>R (.ok (.ret v)) s₃) (notedBy C.M A env fun e s'=>R (.error e) s') s₂) (notedBy C.M A env fun e s'=>R (.error e) s') s2) ?_) ?_ fun _ _ x=>x)
  ·intro v h' tk ht hk aR td hv
   have dD:=Mine.R.opq_inv hv
   subst dD
   have z5:KW C (·=I0) s1 { s1 with heap:=h',toks:=tk }:=KW.one ht rfl tW (tJ.code I0 x9) (fun b o hb e=>hk b o (by simpa using hb) e) (aR I0 x9)
   have xa:=qP.out z5 (fun b hb=>by rw[hb];simp) (fun e=>rb e.symm) iy
   refine nE (wpAny_assign_Name (xa.assign (.inl hseqk) (d:= .opq (.ref a)) (.opq _) fun s3 vO yB=> ?_))
   have bU:CT C H s3.heap (xx c (hs.take j) cur):=(mD.kw z5 dO fun b hb e=>hC (e▸hb)).kw vO dO fun b hb hz=>hHW b hb hz
   have tc:SrcR C A (.Name "seq" pe) (q6 OL++([I0]++Yl)) I0 [I0] (qj as) s3.heap:=td.more (Zs:=[]) (fun b hb=>by cases hb) (fun b hb=> .inr hb) fun b o hb e=>by
    refine vO.heap (fun e'=> ?_) (fun hz=> ?_) e
    ·rcases hb with hb|hb
     ·exact tJ.ne b hb e'
     ·exact hb (e'▸qP.pre.hP)
    ·rcases hb with hb|hb
     ·replace hb:=j4.mp hb;subst hb;exact hIO hz
     ·exact hb (ZO.sub qP.wY hz)
   refine qU (bU a bN) fun vs mm ho hr=> ?_
   have hcur:xx c (hs.take j) cur a=cur a:=jCt fun hm=>by
    have hnd':(hs.take j++a::as).Nodup:=by rw[<-hd,List.take_append_drop];exact kL
    exact(List.nodup_append.mp hnd').2.2 a hm a jk rfl
   rw[hcur] at hr
   generalize lj:cur a=x0;induction x0 using cL with
   |nil=>exact absurd lj (jv a has)
   |cons x xs=>
   rw[lj] at hr
   have hl3c:jA l1 "seq" (.val (.opq (.ref a))) "candidate"=some (.val (.str c)):=by
    unfold jA;rw[if_neg kD,wu _ kD];exact pP
   have hl3s:jA l1 "seq" (.val (.opq (.ref a))) "seq"=some (.val (.opq (.ref a))):=by
    unfold jA;rw[if_pos rfl]
   have ng:a∈[I0]++Yl:=jz _ (tX a bN)
   refine wpAny_execs_cons (nE (jJu (ds:=xs.map .str) yB a1 hl3s hl3c ng (fun e=>hHW a bN (e▸jz _ jk)) (fun p hp e=>hHc p hp (e▸bN)) (dO a bN) ho (by exact hr) (by have:=hlen a has;rw[lj] at this;simpa using this) fun s4 dI m' yx yw ho4 lR=> ?_))
   have hIa:I0≠a:=fun e=>hC (e▸bN)
   have ba:SrcR C A (.Name "seq" pe) (q6 OL++([I0]++Yl)) I0 [I0] (qj as) s4.heap:=tc.more (Zs:=[]) (fun b hb=>by cases hb) (fun b hb=> .inr hb) fun b o hb e=>by
    refine yx.heap (fun e'=> ?_) (fun hz=> ?_) e
    ·rcases hb with hb|hb
     ·exact tJ.ne b hb e'
     ·exact hb (e'▸qP.pre.hP)
    ·rcases hb with hb|hb
     ·replace hb:=j4.mp hb;exact hIa (hb.symm.trans hz)
     ·exact hb (jz _ (hz▸ng))
   refine wpAny_execs_nil ⟨m - 1,by lia,j+1,_,by lia,yw,fun y hy=> ?_,fun b hb=> ?_,by rw[wq];exact ba,?_⟩
   ·unfold jA;rw[if_neg hy];exact wu y hy
   ·rw[jF5 kL lX]
    by_cases mW:b=a
    ·subst mW
     refine oM dI m' ho4 ?_
     dsimp only
     rw[if_pos rfl,lj]
     by_cases hxc:x=c
     ·rw[if_pos hxc] at lR
      rw[if_pos (by rw[hxc];rfl)]
      exact lR
     ·rw[if_neg hxc] at lR
      rw[if_neg (by simpa using hxc)]
      exact lR
    ·refine qU (bU b hb) fun ws m2 e2 r2=> ?_
     refine oM ws m2 (yx.heap (dO b hb) mW e2) ?_
     dsimp only
     rw[if_neg mW];exact r2
   ·exact gR.trans ((z5.mono fun b hb=>Or.inl hb).trans ((vO.mono fun b hb=>Or.inr (Or.inl hb)).trans (yx.mono fun b hb=>Or.inr (Or.inr (hb▸bN)))))
  ·intro rr s2 y0
   refine jH y0 ?_;clear y0;rintro v rfl hh
   exact nE hh
noncomputable abbrev qW(hs:List Addr)(cur:Addr->List Str):List D:=hs.map fun a=> .lref a ((cur a).map .str)
noncomputable def kN(hs:List Addr)(cur:Addr->List Str)(xs:List Str):jQ:=fun y=>if y="sequences" then some (.val (.list (qW hs cur))) else if y="result" then some (.own (xs.map .str)) else none
noncomputable def rg(hs:List Addr)(xs:List Str):jQ:=fun y=>if y="sequences" then some (.val (.list (qj hs))) else if y="result" then some (.own (xs.map .str)) else none
noncomputable def sX(hs:List Addr)(xs:List Str)(c:Str):jQ:=fun y=>if y="candidate" then some (.val (.str c)) else rg hs xs y
theorem jDw{Hv:HV}:∀{hs:List Addr} {vs:List Value},Rs C.prog C.w Hv vs (qj hs)->vs=hs.map .ref
 |[],_,.nil=>rfl
 |a::hs,_,.cons h r=>by rw[Mine.R.opq_inv h,jDw r];rfl
theorem jCm{Hv:HV}{cur:Addr->List Str}:∀{hs:List Addr} {vs:List Value},Rs C.prog C.w Hv vs (qW hs cur)->vs=hs.map .ref
 |[],_,.nil=>rfl
 |a::hs,_,.cons h r=>by
  have h1:=jCm r
  cases h
  rw[h1];rfl
theorem kZ{Hv:HV}:∀(hs:List Addr),Rs C.prog C.w Hv (hs.map .ref) (qj hs)
 |[]=> .nil
 |a::hs=> .cons (.opq _) (kZ hs)
theorem strs_map(xs:List Str):strs? (xs.map D.str)=some xs:=by
 induction xs with
 |nil=>rfl
 |cons x xs ih=>refine(?_:(strs? (xs.map D.str)).map (x::·)=_);rw[ih];rfl
theorem jD6{h:Heap}{Yv:List Addr}{cur:Addr->List Str}(ct:CT C H h cur)(hn:∀a∈H,a∉Yv):∀(hs:List Addr),(∀a∈hs,a∈H)->q5 C h Yv (hs.map .ref) (qW hs cur)
 |[],_=> .nil
 |a::hs,hH=>by
  refine qU (ct a (hH a jk)) fun vs m e rr=> ?_
  exact .cons (.lref (jX e (hn a (hH a jk))) (RP.rs rr)) (jD6 ct hn hs fun b hb=>hH b (qO _ hb))
theorem show_fs{Yf hs:List Addr}{cur:Addr->List Str}{xs:List Str}(fs:FS C n k A env (H++Yf) OL (rg hs xs) s)(ct:CT C H s.heap cur)(hH:∀a∈hs,a∈H)(hn:∀a∈H,a∉q6 OL++Yf)(hP:C.P∈Yf)(cY:∀p∈env.cells,p.2∈Yf)(wY:∀a∈jB env,a∈Yf):FS C n k A env Yf OL (kN hs cur xs) s:=by
 have qQ:∀a∈q6 OL++Yf,a∈q6 OL++(H++Yf):=fun a ha=>by
  simp only[List.mem_append] at ha ⊢
  rcases ha with h|h
  ·exact .inl h
  ·exact .inr (.inr h)
 refine⟨⟨fs.pre.bs,fs.pre.a,fs.pre.eo,fs.pre.gr,jz _ hP,fun a ha=>fs.pre.hY a (qQ a ha),fun a ha=>fs.pre.hYs a (qQ a ha),fs.pre.fm,fun p hp=>jz _ (cY p hp),fun y d hy=> ?_⟩,hP,cY,fs.own,wY,fun p hp hm=>fs.nY p hp (jz _ hm),fs.ap,fs.cw,fun y ds hy=> ?_⟩
 ·unfold jV kN at hy
  by_cases e1:y="sequences"
  ·subst e1
   simp at hy
   subst hy
   refine jH (fs.pre.loc "sequences" (.list (qj hs)) (by unfold jV rg;rw[if_pos rfl])) fun v hv rv=> ?_
   refine jj rv.list_inv ?_;rintro S vs m rfl ho rs
   have aF:=jDw rs
   subst aF
   obtain⟨bF,ua⟩:=jM ho
   exact⟨_,hv,.list (jX bF fun hm=>ua (qQ _ hm)) (jD6 ct hn hs hH)⟩
  ·rw[if_neg e1] at hy
   by_cases e2:y="result"
   ·rw[if_pos e2] at hy;exact zn hy
   ·rw[if_neg e2] at hy;exact zn hy
 ·unfold kN at hy
  by_cases e1:y="sequences"
  ·rw[if_pos e1] at hy;cases hy
  ·rw[if_neg e1] at hy
   refine yz (fs.lst y ds (by unfold rg;rw[if_neg e1];exact hy)) fun a vs m g1 g2 g3 g4=> ?_
   exact vL a vs m g1 g2 g3 (Rs.mono (jh qQ) g4)
theorem hide_fs{Yf hs:List Addr}{cur cur':Addr->List Str}{xs:List Str}{c:Str}(fs:FS C n k A env Yf OL l s)(ct:CT C H s.heap cur)(h1:l "sequences"=some (.val (.list (qW hs cur'))))(h2:l "result"=some (.own (xs.map .str)))(h3:l "candidate"=some (.val (.str c)))
  (jv:hs≠[]) (hn:∀a∈H,a∉q6 OL++Yf) (hg:∀a∈H,C.g0.get? a=none):FS C n k A env (H++Yf) OL (sX hs xs c) s:=by
 have qu:∀a,a∈q6 OL++(H++Yf)↔a∈H\/a∈q6 OL++Yf:=fun a=>by
  simp only[List.mem_append]
  constructor
  ·rintro (h|h|h)
   ·exact .inr (.inl h)
   ·exact .inl h
   ·exact .inr (.inr h)
  ·rintro (h|h|h)
   ·exact .inr (.inl h)
   ·exact .inl h
   ·exact .inr (.inr h)
 refine⟨⟨fs.pre.bs,fs.pre.a,fs.pre.eo,fs.pre.gr,(qu _).mpr (.inr fs.pre.hP),fun a ha=> ?_,fun a ha=> ?_,fs.pre.fm,fun p hp=>(qu _).mpr (.inr (fs.pre.hc p hp)),fun y d hy=> ?_⟩,jz _ fs.hP,fun p hp=>jz _ (fs.cY p hp),fs.own,fun a ha=>jz _ (fs.wY a ha),fun p hp hm=> ?_,fs.ap,fs.cw,fun y ds hy=> ?_⟩
 ·exact((qu a).mp ha).elim (hg a) (fs.pre.hY a)
 ·refine((qu a).mp ha).elim (fun h=> ?_) (fs.pre.hYs a)
  refine qU (ct a h) fun vs m e _=> ?_
  exact⟨_,e⟩
 ·unfold jV sX rg at hy
  by_cases e0:y="candidate"
  ·subst e0
   simp at hy
   subst hy
   refine jH (fs.pre.loc "candidate" (.str c) (by unfold jV;rw[h3])) fun v hv rv=> ?_
   obtain⟨t,rfl⟩:=rv.str_inv
   exact⟨_,hv,.str c t⟩
  ·rw[if_neg e0] at hy
   by_cases e1:y="sequences"
   ·subst e1
    simp at hy
    subst hy
    refine jH (fs.pre.loc "sequences" _ (by unfold jV;rw[h1])) fun v hv rv=> ?_
    refine jj rv.list_inv ?_;rintro S vs m rfl ho rs
    have aF:=jCm rs
    subst aF
    obtain⟨bF,ua⟩:=jM ho
    refine⟨_,hv,.list (jX bF fun hm=> ?_) (kZ hs)⟩
    rcases (qu S).mp hm with hm|hm
    ·refine qU (ct S hm) fun ws m2 e rr=> ?_
     rw[bF] at e
     simp only[jc,Option.some.injEq,Obj.mk.injEq,Data.seq.injEq] at e
     have ew:hs.map Value.ref=ws:=by exact congrArg Array.toList e.2.2.1.1
     subst ew
     match hs,jv,rr with
     |a::z6,_,rr=>
      match hc:(cur S),rr with
      |[],rr=>cases rr
      |x::_,.cons h _=>cases h
    ·exact ua hm
   ·rw[if_neg e1] at hy
    by_cases e2:y="result"
    ·rw[if_pos e2] at hy;exact zn hy
    ·rw[if_neg e2] at hy;exact zn hy
 ·rcases jq.mp hm with hm|hm
  ·exact hn _ hm (xn _ (List.mem_map_of_mem (f:=(·.2)) hp))
  ·exact fs.nY p hp hm
 ·unfold sX rg at hy
  by_cases e0:y="candidate"
  ·rw[if_pos e0] at hy;cases hy
  ·rw[if_neg e0] at hy
   by_cases e1:y="sequences"
   ·rw[if_pos e1] at hy;cases hy
   ·rw[if_neg e1] at hy
    by_cases e2:y="result"
    ·subst e2
     simp at hy
     subst hy
     refine yz (fs.lst "result" _ h2) fun a vs m g1 g2 g3 g4=> ?_
     exact vL a vs m g1 g2 g3 (RP.rs (o8 g4 (strs_map xs)))
    ·rw[if_neg e2] at hy;exact zn hy
variable{l':jQ}
set_option tactic.hygienic true in
theorem ki(S:SS C n r)(rest:List Stmt)(ss:List Stmt):∀(OL:yV) (l l':jQ) (f:Fl) (s:Shared) (Q:vo) (E:q4),FS C n k A env Y OL l s->qV r k env.scope l ss=some (f,l')->
  y9 C n k A env Y OL f l' s (fun f s=>match f with| .next=>wpAny C.M A (execs rest env) Q E s|f=>Q f s) E->wpAny C.M A (execs (ss++rest) env) Q E s:=by
 induction ss with
 |nil=>
  intro OL l l' f s Q E fs h q
  replace h:some (Fl.next,l)=some (f,l'):=h
  cases (h)
  exact q s [] (fun p hp=>by cases (hp)) (KW.refl s) fs
 |cons st ss ih=>
  intro OL l l' f s Q E fs h q
  refine bE (show (r.S k env.scope l st).bind _=some (f,l') from h) ?_;rintro ⟨f1,l1⟩ h1 h2
  refine(?_:wpAny C.M A (execs (st::(ss++rest)) env) Q E s)
  refine wpAny_execs_cons ?_
  have t:=fs.pre.gr.tab
  cases (f1) with
  |next=>
   refine S k A env Y OL l st .next l1 s _ E fs h1 fun s1 N hN kw qP=> ?_
   exact ih (N++OL) l1 l' f s1 Q E qP h2 (q.step t hN kw)
  |brk=>cases (h2);exact S k A env Y OL l st .brk l' s _ E fs h1 q
  |ret d=>cases (h2);exact S k A env Y OL l st (.ret d) l' s _ E fs h1 q
  |exc c d=>cases (h2);exact S k A env Y OL l st (.exc c d) l' s _ E fs h1 q
set_option tactic.hygienic true in
theorem FS.weakL(fs:FS C n k A env Y OL l s)(h:∀y b,l' y=some b->l y=some b):FS C n k A env Y OL l' s:=
 ⟨fs.pre.weak (fun y d e=>by
  unfold jV at e ⊢
  split at e
  ·rename_i d' e';replace e:=j6 e;subst e
   rw[h _ _ e']
  ·exact zn e),fs.hP,fs.cY,fs.own,fs.wY,fs.nY,fs.ap,fs.cw,fun y ds e=>fs.lst y ds (h _ _ e)⟩
theorem src_list{t:Expr}{x:Str}{p:Pos}{its:List D}{Q E:q4}(fs:FS C n k A env Y OL l s)(hx:l x=some (.val (.list its)))(h1:(x==("__debug__":Str))=false)(h2:(x==("__classdict__":Str))=false)
  (q:∀I s',KP C s s'->s.heap.get? I=none->FS C n k A env ([I]++Y) OL l s'->Own C [I] s'.heap->SrcR C A t (q6 OL++([I]++Y)) I [I] its s'.heap->Q (.ref I) s'):
  wpAny C.M A (eval (.Name x p) env) (fun v s₁=>wpAny C.M A (pyIter v) Q E s₁) E s:=by
 refine ne (xw fs hx h1 h2 fun v rv=>ne (yL (ds:=its) fs.pre.a.handled fs.pre.lt rv rfl fun h' hk it=> ?_))
 have wX:s.heap.get? s.heap.objs.size=none:=qy _
 refine jH it.obj fun oi uk _=> ?_
 have yf:KP C s { s with heap:=h' }:=KP.of nL hk
 refine q s.heap.objs.size _ yf wX (fs.moreJ (J:=[s.heap.objs.size]) yf (fun a ha=>by replace ha:=j4.mp ha;subst ha;exact wX) fun a ha=>by replace ha:=j4.mp ha;subst ha;exact⟨oi,uk⟩)
  (Own.fresh fs.pre.gr.tab (fun a ha e=> ?_) hk (fun a ha=>by replace ha:=j4.mp ha;subst ha;exact wX) fun a ha=>by replace ha:=j4.mp ha;subst ha;exact⟨oi,uk⟩) (SrcR.ofIt (by simp) (it.perm fun b=> ?_))
 ·replace ha:=j4.mp ha;subst ha
  obtain⟨o,ho⟩:=fs.pre.hYs C.P fs.pre.hP
  rw[<-e,wX] at ho;exact zn ho
 ·simp only[List.mem_append,List.mem_cons,j4,List.not_mem_nil,or_false]
  constructor
  ·rintro (h|h|h)
   ·exact .inr (.inl h)
   ·exact .inl h
   ·exact .inr (.inr h)
  ·rintro (h|h|h)
   ·exact .inr (.inl h)
   ·exact .inl h
   ·exact .inr (.inr h)
inductive gA (r:Ev) (sc:Scope) (mid:List Stmt):List Addr->(Addr->List Str)->List Str->List Str->Nat->Prop
 |ret {hs cur xs l'}:qV r false sc (kN hs cur xs) mid=some (.ret (.list (xs.map .str)),l')->(∀a,cur a=[])->gA r sc mid hs cur xs xs 0
 |turn {hs z6 cur xs l' c out N}:qV r false sc (kN hs cur xs) mid=some (.next,l')->l' "sequences"=some (.val (.list (qW z6 cur)))->l' "result"=some (.own ((xs++[c]).map .str))->l' "candidate"=some (.val (.str c))->z6≠[]->(∀a∈z6,a∈hs)->z6.Nodup->
   (∀a∈z6,cur a≠[]/\(cur a).length<=lim)->gA r sc mid z6 (xx c z6 cur) (xs++[c]) out N->gA r sc mid hs cur xs out (N+1)
def C3Inv(C:Cx)(n:Nat)(r:Ev)(A:Around)(env:Env)(mid:List Stmt)(H Yf:List Addr)(OL0:yV)(out:List Str)(s:Shared)(m:Nat)(s1:Shared):Prop:=
 ∃hs cur xs N,gA r env.scope mid hs cur xs out m/\FS C n false A env (H++Yf) (N++OL0) (rg hs xs) s1/\CT C H s1.heap cur/\(∀a∈hs,a∈H)/\(∀p∈N,s.heap.get? p.2=none)/\KW C (fun b=>ZO OL0 env b\/b∈H) s s1
theorem jJy(S:wt C n r)(a1:yW (n+1) A){mid:List Stmt}{Yf hs:List Addr}{cur:Addr->List Str}{xs out:List Str}{N0:Nat}{p3 p4 p5 pa pb pc pd pe pf pg ph pi pj pk pl:Pos}{Q:vo}{E:q4}
  (run:gA r env.scope mid hs cur xs out N0) (fs:FS C n false A env (H++Yf) OL (rg hs xs) s) (ct:CT C H s.heap cur) (hH:∀a∈hs,a∈H) (hn:∀a∈H,a∉q6 OL++Yf) (hg:∀a∈H,C.g0.get? a=none) (hP:C.P∈Yf) (cY:∀p∈env.cells,p.2∈Yf) (wY:∀a∈jB env,a∈Yf) (mi:env.kindOf "seq"=some .local)
  (q:∀v s1,KW C (fun b=>ZO OL env b\/b∈H) s s1->RD C s1.heap Yf v (.list (out.map .str))->CT C H s1.heap (fun _=>[])->Q (.ret v) s1):
  wpAny C.M A (exec (.While (.Constant (.bool true) 0 p3) (mid++[.For (.Name "seq" p4) (.Name "sequences" p5) [.If (.Compare (.Subscript (.Name "seq" pa) (.Constant (.int 0) 0 pb) pc) [.Eq] [.Name "candidate" pd] pe) [.Delete [.Subscript (.Name "seq" pf) (.Constant (.int 0) 0 pg) ph] pi] [] pj] [] pk]) [] pl) env) Q E s:=by
 have t0:=fs.pre.gr.tab
 have hex:∀a∈H,∃o,s.heap.get? a=some o:=fun a ha=>by
  refine qU (ct a ha) fun vs m e _=> ?_
  exact⟨_,e⟩
 refine wpAny_While (codeAny_whileLoop (C3Inv C n r A env mid H Yf OL out s) ?_ N0 ⟨hs,cur,xs,[],run,fs,ct,hH,fun p hp=>(by cases hp),KW.refl s⟩)
 intro m s1 y0
 obtain⟨u5,nB,xs1,N1,run1,qP,mD,hU,bO,gR⟩:=y0
 have sH:∀N:yV,(∀p∈N,s.heap.get? p.2=none)->∀a∈H,a∉q6 (N++OL)++Yf:=fun N hN a ha hm=>by
  simp only[q6,List.map_append,List.append_assoc,List.mem_append] at hm
  rcases hm with h|h|h
  ·refine lE h ?_;rintro p hp rfl
   obtain⟨o,e⟩:=hex _ ha
   rw[hN p hp] at e;exact zn e
  ·exact hn a ha (xn _ h)
  ·exact hn a ha (jz _ h)
 have fsv:=show_fs qP mD hU (sH N1 bO) hP cY wY
 have nE:∀{α:Type} {t:Sem α} {Q:α->Shared->Prop} {R:Result->Shared->Prop} {s:Shared},wpAny C.M A t Q NE s->wpAny C.M A t Q (notedBy C.M A env fun e s'=>R (.error e) s') s:=fun h=>ne h
 have dO:∀a∈H,a≠C.P:=fun a ha e=>hn a ha (jz _ (e▸hP))
 refine ne (isTrue_plain (E_bool (C:=C) (Y:=Yf) fun v s2 k2 r2=> ?_))
 rw[r2.bool_inv]
 refine wpAny_truthy_bool ?_
 simp only[if_true]
 have bo:KW C (fun b=>ZO OL env b\/b∈H) s s2:=gR.trans k2.kw
 have zo:∀b,ZO (N1++OL) env b->(ZO OL env b\/b∈H)\/s.heap.get? b=none:=fun b hb=>(vP bO b hb).imp .inl id
 cases run1 with
 |ret h hnil=>
  refine ki S.S _ mid (N1++OL) _ _ _ s2 _ _ (fsv.kp k2) h fun v s3 kw rd=>q v s3 (bo.transNew kw zo) rd ?_
  have e:nB=fun _=>[]:=funext hnil
  rw[<-e]
  refine(mD.kw (KP.kw k2 (Z:=fun _=>False)) dO fun _ _ h=>h).kw kw dO fun a ha hz=> ?_
  rcases jq.mp hz with hz|hz
  ·exact sH N1 bO a ha (xn _ hz)
  ·exact sH N1 bO a ha (jz _ (wY a hz))
 | @turn _ z6 _ _ l' c _ N h e1 e2 e3 jv qQ kL hlen run'=>
   refine ki S.S _ mid (N1++OL) _ _ _ s2 _ _ (fsv.kp k2) h fun s3 N2 tE vO yB=> ?_
   have oK:KW C (fun b=>ZO OL env b\/b∈H) s s3:=bo.transNew vO zo
   have cK:∀p∈N2++N1,s.heap.get? p.2=none:=fun p hp=>by
    rcases jq.mp hp with hp|hp
    ·exact xX bo t0 (tE p hp)
    ·exact bO p hp
   have mn:=sH (N2++N1) cK
   rw[List.append_assoc] at mn
   have hHz:∀a∈H,¬ZO (N1++OL) env a:=fun a ha hz=>by
    rcases jq.mp hz with hz|hz
    ·exact sH N1 bO a ha (xn _ hz)
    ·exact sH N1 bO a ha (jz _ (wY a hz))
   have bU:CT C H s3.heap nB:=(mD.kw (KP.kw k2 (Z:=fun _=>False)) dO fun _ _ h=>h).kw vO dO hHz
   have fsh:=hide_fs yB bU e1 e2 e3 jv mn hg
   refine wpAny_execs_cons (wpAny_For (src_list fsh (t:= .Name "seq" p4) (its:=qj z6) (x:="sequences") (by unfold sX rg;rw[if_neg kD,if_pos rfl]) kD kD fun I s4 pq sV yw oI4 ba=> ?_) (by intro _;rfl))
   have ct4:CT C H s4.heap nB:=bU.kw (KP.kw pq (Z:=fun _=>False)) dO fun _ _ h=>h
   have iz:I∉H++Yf:=fun hm=>by
    obtain⟨o,e⟩:=fsh.pre.hYs I (jz _ hm)
    rw[sV] at e;exact zn e
   refine jJv yw a1 mi (by unfold sX;rw[if_pos rfl]) (fun a ha=>hU a (qQ a ha)) (fun a ha=>xn _ ha) (fun a ha hm=> ?_) (fun p hp hm=>hn _ hm (jz _ (cY p hp))) dO kL iz (jz _ hP) (fun p hp=>jz _ (cY p hp)) (fun a ha=>jz _ (wY a ha)) oI4 (fun a ha=>(hlen a ha).1) (fun a ha=>(hlen a ha).2) ct4 ba fun s5 s6 l6 dq kj rA hl6 ct6=> ?_
   ·rcases jq.mp hm with hm|hm
    ·exact mn a ha (xn _ hm)
    ·exact mn a ha (jz _ (wY a hm))
   ·have bP:s.heap.get? I=none:=xX oK t0 sV
    have dz:FS C n false A env (H++Yf) (N2++(N1++OL)) (rg z6 (xs1++[c])) s6:=rA.weakL (fun y b hy=>by
     have hys:y="sequences"\/y="result":=by
      unfold rg at hy
      by_cases h1:y="sequences"
      ·exact .inl h1
      ·rw[if_neg h1] at hy
       by_cases h2:y="result"
       ·exact .inr h2
       ·rw[if_neg h2] at hy;exact zn hy
     have hq:y≠"seq"/\y≠"candidate":=by rcases hys with rfl|rfl <;> exact⟨by decide,by decide⟩
     rw[hl6 y hq.1]
     unfold sX
     rw[if_neg hq.2]
     exact hy)
    refine wpAny_execs_nil ⟨N,Nat.lt_succ_self N,z6,xx c z6 nB,xs1++[c],N2++N1,run',by rw[List.append_assoc];exact dz,ct6,fun a ha=>hU a (qQ a ha),cK,?_⟩
    ·have hZ:∀b,(b=I\/ZO (N2++(N1++OL)) env b\/b∈H)->((ZO OL env b\/b∈H)\/b∈[I])\/s.heap.get? b=none:=fun b hb=>by
      rcases hb with hb|hb|hb
      ·exact .inl (.inr (by simp[hb]))
      ·rw[<-List.append_assoc] at hb
       exact(vP cK b hb).imp (fun h=> .inl (.inl h)) id
      ·exact .inl (.inl (.inr hb))
     have kw15:KW C (fun b=>(ZO OL env b\/b∈H)\/b∈[I]) s s5:=((oK.mono fun b hb=>Or.inl hb).trans pq.kw).transNew dq hZ
     exact kw15.lastJ (fun b hb=>by replace hb:=j4.mp hb;subst hb;exact bP) kj fun b hb=>hb
structure nJ(fn:Fn)(first:Stmt)(mid:List Stmt):Prop where
 ok:uc fn=true
 names:fn.names=(["sequences"]:List Str)
 seq:fn.scope.names.lookup ("seq":Str)=some .local
 shape:∃p:Nat->Pos,fn.body=[first]++[.While (.Constant (.bool true) 0 (p 0)) (mid++[.For (.Name "seq" (p 1)) (.Name "sequences" (p 2)) [.If (.Compare (.Subscript (.Name "seq" (p 3)) (.Constant (.int 0) 0 (p 4)) (p 5)) [.Eq] [.Name "candidate" (p 6)] (p 7)) [.Delete [.Subscript (.Name "seq" (p 8)) (.Constant (.int 0) 0 (p 9)) (p 10)] (p 11)] [] (p 12)] [] (p 13)]) [] (p 14)]
variable{Y':List Addr}
theorem FS.perm(fs:FS C n k A env Y OL l s)(h:∀a,a∈Y'↔a∈Y):FS C n k A env Y' OL l s:=by
 have h1:∀a,a∈q6 OL++Y'↔a∈q6 OL++Y:=fun a=>by simp only[List.mem_append,h]
 exact⟨⟨fs.pre.bs,fs.pre.a,fs.pre.eo,fs.pre.gr,(h1 _).mpr fs.pre.hP,fun a ha=>fs.pre.hY a ((h1 a).mp ha),fun a ha=>fs.pre.hYs a ((h1 a).mp ha),fs.pre.fm,fun p hp=>(h1 _).mpr (fs.pre.hc p hp),fun y d e=>by
  refine jH (fs.pre.loc y d e) fun v a rv=> ?_
  exact⟨v,a,Mine.R.mono (jh fun a ha=>(h1 a).mp ha) rv⟩⟩,(h _).mpr fs.hP,fun p hp=>(h _).mpr (fs.cY p hp),fs.own,fun a ha=>(h a).mpr (fs.wY a ha),fun p hp hm=>fs.nY p hp ((h _).mp hm),fs.ap,fs.cw,fun y ds e=>by
  refine yz (fs.lst y ds e) fun a vs m g1 g2 g3 g4=> ?_
  exact vL a vs m g1 g2 g3 (Rs.mono (jh fun a ha=>(h1 a).mp ha) g4)⟩
theorem c3_call(S:wt C n r){f:Str}{fn:Fn}{first:Stmt}{mid:List Stmt}(hf:nJ fn first mid)(bs:Base C){af:Addr}{o:Obj}{pm code doc:Value}(ho:C.g0.get? af=some o)(hd:o.data= .func (docDef f fn.params fn.body fn.scope pm code doc))(hc:C.g0.CodeRec code f)
  (g:Gr C s) (hP:C.P∈Y) (hY:∀a∈Y,C.g0.get? a=none) (hYs:∀a∈Y,∃o,s.heap.get? a=some o) (room:yA (n+1) A) {hs:List Addr} {va:Value} {cur:Addr->List Str} {out:List Str} {N0:Nat}
  (fg:∀l:jQ,∃l1,qV r false fn.scope l [first]=some (.next,l1)/\l1 "result"=some (.own [])/\∀y:Str,y≠"result"->l1 y=l y)
  (hv:RD C s.heap Y va (.list (qj hs))) (ct:CT C hs s.heap cur) (tX:∀a∈hs,a∈Y) (dO:∀a∈hs,a≠C.P) (kx:out≠[]\/hs=[]) (run:gA r fn.scope mid hs cur [] out N0) {Q E:q4}
  (q:∀v s',KW C (·∈hs) s s'->RD C s'.heap Y v (.list (out.map .str))->Q v s'):wpAny C.M A (call (.ref af) [va]) Q E s:=by
 have ok:=vr hf.ok
 have tj:=room.depth
 have uM:fn.params.args.map (·.arg)=(["sequences"]:List Str):=hf.names
 have hlen:fn.params.args.length=1:=by have:=congrArg List.length uM;simpa using this
 refine wpAny_call (codeAny_call_function (fd:=docDef f fn.params fn.body fn.scope pm code doc) (body:=fn.body) (by have:recursionLimit=1000:=rfl;lia) (g.keep _ _ ho) hd ok.co ok.gen rfl (hc.keeps g.keep) ?_)
 rw[qc ok.plain rfl (by refine(?_:fn.params.args.length=1);exact hlen)]
 refine wpAny_pure (ne ?_)
 obtain⟨l0,hb⟩:∃l0,y5 fn.names [.list (qj hs)]=some l0:=by rw[hf.names];exact⟨_,rfl⟩
 have um:=xB hb
 rw[hf.names] at um
 have sf:l0 "sequences"=some (.val (.list (qj hs))):=by rw[um];rfl
 refine za (k:=false) (n:=n+1) (A:=A) ok bs g hP hY hYs (fun env=>room.deeper) hb (.cons hv .nil) (fun h=>by exact zf h) fun env s1 zE qP wX hcn qJ uq=>⟨bs.nolimit.keeps (g.kp bs zE).keep,codeAny_func ?_⟩
 obtain⟨p,kG⟩:=hf.shape
 rw[kG]
 have a1:yW (n+1) (A.deeper env):=qP.pre.a
 refine xQ (fg l0) fun l1 h1 h2 h3=> ?_
 have mD:CT C hs s1.heap cur:=ct.kw (KP.kw zE (Z:=fun _=>False)) dO fun _ _ h=>h
 refine ki S.S _ [first] [] l0 l1 .next s1 _ _ (qP.lo (Nat.le_succ n)) (by rw[qJ];exact h1) fun s2 N hN z5 xa=> ?_
 have hex:∀a∈hs,∃o,s.heap.get? a=some o:=fun a ha=>hYs a (tX a ha)
 have hW:∀a∈hs,a∉jB env:=fun a ha hm=>by
  obtain⟨oo,e⟩:=hex a ha
  rw[wX a hm] at e;exact zn e
 have ct2:CT C hs s2.heap cur:=mD.kw z5 dO fun a ha hz=>hW a ha (by exact hz)
 have hperm:∀a,a∈hs++(jB env++Y.filter fun a=>decide (a∉hs))↔a∈jB env++Y:=fun a=>by
  simp only[List.mem_append,List.mem_filter,decide_eq_true_eq]
  constructor
  ·rintro (h|h|h)
   ·exact .inr (tX a h)
   ·exact .inl h
   ·exact .inr h.1
  ·rintro (h|h)
   ·exact .inr (.inl h)
   ·by_cases ha:a∈hs
    ·exact .inl ha
    ·exact .inr (.inr ⟨h,ha⟩)
 have fs2':FS C n false (A.deeper env) env (hs++(jB env++Y.filter fun a=>decide (a∉hs))) (N++[]) (rg hs []) s2:=(xa.perm hperm).weakL fun y b hy=>by
  unfold rg at hy
  by_cases e1:y="sequences"
  ·subst e1
   rw[if_pos rfl] at hy
   rw[h3 _ kD,sf];exact hy
  ·rw[if_neg e1] at hy
   by_cases e2:y="result"
   ·subst e2
    rw[if_pos rfl] at hy
    rw[h2];exact hy
   ·rw[if_neg e2] at hy;exact zn hy
 have hn:∀a∈hs,a∉q6 (N++[])++(jB env++Y.filter fun a=>decide (a∉hs)):=fun a ha hm=>by
  simp only[List.append_nil,List.mem_append,List.mem_filter,decide_eq_true_eq] at hm
  rcases hm with h|h|h
  ·refine lE h ?_;rintro pp hp rfl
   refine qU (mD _ ha) fun vs m e _=> ?_
   rw[hN pp hp] at e;exact zn e
  ·exact hW a ha h
  ·exact h.2 ha
 have t0:=g.tab
 refine wpAny_execs_cons (jJy S a1 (by rw[qJ];exact run) fs2' ct2 (fun a ha=>ha) hn (fun a ha=>hY a (tX a ha)) (jz _ (qG.mpr ⟨hP,decide_eq_true fun h=>dO _ h rfl⟩)) (fun pp hp=>xn _ (hcn pp hp)) (fun a ha=>xn _ ha)
  (by refine(?_:env.scope.names.lookup ("seq":Str)=_);rw[qJ];exact hf.seq) fun v s3 vO rd bU=> ?_)
 refine q v s3 (((KP.kw zE (Z:=(·∈hs))).transNew z5 fun b hb=> .inr (wX b (by exact hb))).transNew vO fun b hb=> ?_) ?_
 ·rcases hb with hb|hb
  ·simp only[ZO,List.append_nil,List.mem_append] at hb
   rcases hb with hb|hb
   ·refine lE hb ?_;rintro pp hp rfl
    exact .inr (xX zE.kw t0 (hN pp hp) (Z:=fun _=>False))
   ·exact .inr (wX b hb)
  ·exact .inl hb
 ·refine jj rd.list_inv ?_;rintro S' vs m rfl bD rs
  obtain⟨h4,h5⟩:=jM bD
  have hSH:S'∉hs:=fun hm=>by
   rcases kx with ho'|ho'
   ·refine qU (bU S' hm) fun ws m2 e rr=> ?_
    rw[h4] at e
    simp only[jc,Option.some.injEq,Obj.mk.injEq,Data.seq.injEq] at e
    have ew:vs=ws:=by exact congrArg Array.toList e.2.2.1.1
    subst ew
    cases rr
    have:=rs.length
    simp at this
    exact ho' (List.length_eq_zero_iff.mp this.symm)
   ·rw[ho'] at hm;cases hm
  refine .list (jX h4 fun hm=>h5 (jz _ (qG.mpr ⟨hm,decide_eq_true hSH⟩))) (RP.rs (o8 rs (strs_map out)))
noncomputable def yR(hs:List Addr)(xss:List (List Str))(a:Addr):List Str:=((hs.zip xss).lookup a).getD []
noncomputable abbrev qS(xss:List (List Str)):List D:=xss.map fun xs=> .list (xs.map .str)
variable{m:Nat}{r':Ev}
theorem LL.append_inv{h:Heap}{hs:List Addr}{a0:List D}(l:LL C h hs a0):hs.length=a0.length:=by
 induction l with
 |nil=>rfl
 |cons _ _ _ ih=>exact congrArg (·+1) ih
theorem LL.ct{h:Heap}:∀{hs:List Addr} {xss:List (List Str)},LL C h hs (qS xss)->hs.Nodup->CT C hs h (yR hs xss)
 |[],_,_,_=>fun a ha=>nomatch ha
 |b::hs,[],t,_=>by cases t
 |b::hs,xs::xss,t,kL=>by
  cases t with
  |cons e rr t=>
  obtain⟨n1,n2⟩:=y7.mp kL
  have ih:=LL.ct t n2
  intro a ha
  by_cases sQ:a=b
  ·subst sQ
   refine oM _ _ e ?_
   have:yR (a::hs) (xs::xss) a=xs:=by unfold yR;simp
   rw[this];exact rr
  ·rcases j0.mp ha with h|ha
   ·exact absurd h sQ
   ·refine qU (ih a ha) fun vs m e' r'=> ?_
    refine oM vs m e' ?_
    have:yR (b::hs) (xs::xss) a=yR hs xss a:=by
     unfold yR
     rw[List.zip_cons_cons,List.lookup_cons]
     have:(a==b)=false:=by simpa using sQ
     rw[this]
    rw[this];exact r'
theorem jFr(S:wt C n r){f:Str}{fn:Fn}{first:Stmt}{mid:List Stmt}(hf:nJ fn first mid){af:Addr}{o:Obj}{pm code doc:Value}(ho:C.g0.get? af=some o)(hd:o.data= .func (docDef f fn.params fn.body fn.scope pm code doc))(hc:C.g0.CodeRec code f)
  (room:yA (n+1) A) {hs:List Addr} {xss:List (List Str)} {va:Value} {out:List Str} {N0:Nat} (fs:FS C m k A env (hs++Y) OL l s) (fg:∀l:jQ,∃l1,qV r false fn.scope l [first]=some (.next,l1)/\l1 "result"=some (.own [])/\∀y:Str,y≠"result"->l1 y=l y)
  (hv:RD C s.heap (q6 OL++(hs++Y)) va (.list (qj hs))) (kL:hs.Nodup) (ll:LL C s.heap hs (qS xss)) (tX:∀a∈hs,a∉Y) (hP:C.P∈Y) (cY:∀p∈env.cells,p.2∈Y) (wY:∀a∈jB env,a∈Y) (kx:out≠[]\/hs=[]) (run:gA r fn.scope mid hs (yR hs xss) [] out N0) {Q E:q4}
  (q:∀v s',KW C (·∈hs) s s'->FS C m k A env Y OL l s'->RD C s'.heap (q6 OL++Y) v (.list (out.map .str))->Q v s'):wpAny C.M A (call (.ref af) [va]) Q E s:=by
 have p:=fs.pre
 have dO:∀a∈hs,a≠C.P:=fun a ha e=>tX a ha (e▸hP)
 refine c3_call S hf p.bs ho hd hc p.gr p.hP p.hY p.hYs room fg hv (ll.ct kL) (fun a ha=>jz _ (xn _ ha)) dO kx run fun v s' kw rd=> ?_
 have bS:FS C m k A env (hs++Y) OL l s':=fs.out kw (fun b hb=>xn _ hb) (fun hm=>tX _ hm (wY _ jk)) fun pp hp hm=>tX _ hm (cY pp hp)
 refine q v s' kw (bS.lastJ (KJ.refl s') tX hP cY wY) (Mine.R.mono (jh fun a ha=> ?_) rd)
 simp only[List.mem_append] at ha ⊢
 rcases ha with h|h
 ·exact .inl h
 ·exact .inr (.inr h)
theorem jDf{elt:Expr}{g:Comprehension}{gs:List Comprehension}{jS:Scope}{emitD:Loc->Option D}{its:List D}{d:D}{xss:List (List Str)}{pos:Pos}{Q:q4}(S:SE C m r')(a1:yW (m+1) A)(F:∀ce,ce.scope=jR env.scope jS->gh C m k A ce elt emitD)(fs:FS C m k A env Y OL l s)
  (h1:r'.E k env.scope (jV l) g.iter=some d) (h2:ju d=some its) (ok:jm env.scope jS (g::gs)=true) (h:comp r' k (jR env.scope jS) emitD (g::gs) (jL jS (jV l)) its=some (qS xss)) (hlen:xss.length<=lim)
  (q:∀v hs s',KP C s s'->FS C m k A env (hs++Y) OL l s'->RD C s'.heap (q6 OL++(hs++Y)) v (.list (qj hs))->LL C s'.heap hs (qS xss)->(∀a∈hs,s.heap.get? a=none)->hs.Nodup->Q v s'):
  wpAny C.M A (eval (.ListComp elt (g::gs) jS pos) env) Q NE s:=by
 refine jF3 S a1 F fs.pre h1 h2 ok h (by simpa using hlen) fun DD hs mm s' kp ho ll yY pw=> ?_
 obtain⟨pw1,pw2⟩:=List.pairwise_cons.mp pw
 have bS:FS C m k A env (hs++Y) OL l s':=(fs.moreJ kp (fun a ha=>yY a (qO _ ha)) fun a ha=>ll.ex a ha)
 refine q _ hs s' kp bS (.list (jX ho fun hm=> ?_) (kZ hs)) ll (fun a ha=>yY a (qO _ ha)) (pw2.imp fun h=>Nat.ne_of_lt h)
 simp only[List.mem_append] at hm
 have tY:s.heap.get? DD=none:=yY DD jk
 rcases hm with h|h|h
 ·obtain⟨o,e⟩:=fs.pre.hYs DD (xn _ h);rw[tY] at e;exact zn e
 ·exact Nat.lt_irrefl _ (pw1 DD h)
 ·obtain⟨o,e⟩:=fs.pre.hYs DD (jz _ h);rw[tY] at e;exact zn e
structure C3At(C:Cx)(r:Ev)(f:Str)(fn:Fn)(first:Stmt)(mid:List Stmt)(af:Addr)(o:Obj)(pm code doc:Value):Prop where
 hf:nJ fn first mid
 ho:C.g0.get? af=some o
 hd:o.data= .func (docDef f fn.params fn.body fn.scope pm code doc)
 hc:C.g0.CodeRec code f
 hm:C.mg f=some (.ref af)
 db:(f==("__debug__":Str))=false
 start:∀l:jQ,∃l1,qV r false fn.scope l [first]=some (.next,l1)/\l1 "result"=some (.own [])/\∀y:Str,y≠"result"->l1 y=l y
theorem jFc{x:Str}{elt:Expr}{g:Comprehension}{gs:List Comprehension}{jS:Scope}{emitD:Loc->Option D}{its:List D}{d:D}{xss:List (List Str)}{p pos spos:Pos}{Q:vo}{E:q4}(S:SE C m r')(a1:yW (m+1) A)(F:∀ce,ce.scope=jR env.scope jS->gh C m k A ce elt emitD)(fs:FS C m k A env Y OL l s)
  (h1:r'.E k env.scope (jV l) g.iter=some d) (h2:ju d=some its) (ok:jm env.scope jS (g::gs)=true) (h:comp r' k (jR env.scope jS) emitD (g::gs) (jL jS (jV l)) its=some (qS xss)) (hlen:xss.length<=lim)
  (iK:swapsWith (.ListComp elt (g::gs) jS pos) (some (.Name x p)) spos.line env=pure true) (hx:env.kindOf x=some .local)
  (q:∀hs s',KW C (ZO OL env) s s'->FS C m k A env (hs++Y) OL (jA l x (.val (.list (qj hs)))) s'->LL C s'.heap hs (qS xss)->(∀a∈hs,s.heap.get? a=none)->hs.Nodup->Q .next s'):
  wpAny C.M A (exec (.Assign [.Name x p] (.ListComp elt (g::gs) jS pos) spos) env) Q E s:=by
 have oc:=nO ok
 have t0:=fs.pre.gr.tab
 have h0:g.is_async=0:=oc.sync g jk
 have tR:firstAsync (g::gs)=false:=by cases g;simp only at h0;subst h0;rfl
 have tQ:firstIter (g::gs) env=eval g.iter env:=by cases g;rfl
 have K:kJ C m k A env.scope jS (.ListComp elt (g::gs) jS pos) (g::gs) (newList []) emitD (qS xss) (.list (qS xss)) (jc [] 0) (rV C)
  (fun DD ce=>do let _<-call (.builtin "list.append") [.ref DD,<-eval elt ce]):=
  { cl:=rfl
    is:=fun DD=>vk fun g hg=>oc.sync g hg
    acc:=fun DD=>accFr DD
    em:=fun DD ce qJ=>emitFr (F ce qJ)
    new:=fun s Q h=>wpAny_newList h
    live:=rfl
    nil:=fun h Y DD ho=>⟨[],0,ho,.nil,.nil,fun a ha=>nomatch ha⟩
    fin:=fun h Y DD ⟨hs,m,ho,ll,pw,al⟩ hY _=> .list (jX ho hY) (ll.rs fun a ha=>(al a ha).2) }
 refine ne ?_
 rw[exec_Assign_Name_used _ _ _ _ iK]
 refine wpAny_bind (wpAny_standAt (wpAny_bind ?_))
 rw[eTU_l,tR,tQ]
 refine wpAny_bind (wpAny_mono (jBm (Q:=fun _ s'=>Q .next s') (use:=some (assign (.Name x p) env)) S a1 K fs.pre h1 h2 ok h (by simpa using hlen) fun DD L s' kp hL oA hns dF hDY dG=> ?_) (fun _ s' hq=>wpAny_pure (wpAny_pure hq)) fun _ _ x=>x.elim)
 refine(?_:wpAny C.M A (assign (.Name x p) env (.ref DD)) _ NE s')
 obtain⟨mm,hns⟩:=hns
 refine uf dG fun hs m0 ho ll pw al=> ?_;clear dG
 have yY:∀a∈hs,s.heap.get? a=none:=fun a ha=>dF a (Nat.le_of_lt (al a ha).1)
 have tY:s.heap.get? DD=none:=dF DD nL
 have ah:∃o,s'.heap.get? L=some o:=by (refine uB hns fun o es ep ho _=> ?_;clear hns);exact⟨o,ho⟩
 have hLhs:L∉hs:=fun hm=>(al L hm).2 jk
 have qP:FS C m k A env ([L]++(hs++Y)) OL l s':=by
  have h3:FS C m k A env ((L::hs)++Y) OL l s':=fs.moreJ kp (fun a ha=>by
   rcases j0.mp ha with rfl|ha
   ·exact hL
   ·exact yY a ha) fun a ha=>by
   rcases j0.mp ha with rfl|ha
   ·exact ah
   ·exact ll.ex a ha
  exact h3
 have hLY:L∉hs++Y:=fun hm=>by
  rcases jq.mp hm with hm|hm
  ·exact hLhs hm
  ·obtain⟨o,e⟩:=fs.pre.hYs L (jz _ hm)
   rw[hL] at e;exact zn e
 have nj:L≠C.P:=fun e=>hLY (jz _ (e▸fs.hP))
 have rd:RD C s'.heap (q6 OL++([L]++(hs++Y))) (.ref DD) (.list (qj hs)):=by
  refine .list (jX ho fun hm=> ?_) (kZ hs)
  simp only[List.mem_append,j4] at hm
  rcases hm with h|h|h|h
  ·obtain⟨o,e⟩:=fs.pre.hYs DD (xn _ h);rw[tY] at e;exact zn e
  ·exact hDY (h▸jk)
  ·exact Nat.lt_irrefl _ (al DD h).1
  ·obtain⟨o,e⟩:=fs.pre.hYs DD (jz _ h);rw[tY] at e;exact zn e
 refine wpAny_assign_Name (qP.assign (.inl hx) rd fun s2 z5 xa=> ?_)
 have aj:∀a∈L::hs,¬ZO OL env a:=fun a ha hz=>by
  have:s.heap.get? a=none:=by
   rcases j0.mp ha with rfl|ha
   ·exact hL
   ·exact yY a ha
  obtain⟨o,e⟩:=fs.pre.hYs a (ZO.sub fs.wY hz)
  rw[this] at e;exact zn e
 have rp:s2.heap.Ns L mm:=hns.at fun o e=>z5.heap nj (aj L jk) e
 refine⟨mm,rp,fun h5 mQ=> ?_⟩
 have my:¬jx C s2.heap L:=z5.code qP.pre.gr.tab ah oA
 have kj:KJ C [L] s2 { s2 with heap:=h5 }:=KJ.of (tk:=s2.toks) nL (fun a ha=>by replace ha:=j4.mp ha;subst ha;exact nj) (fun a ha=>by replace ha:=j4.mp ha;subst ha;exact my) fun b o hb e=>by rw[mQ.2 b (by simpa using hb)];exact e
 have dH:∀a∈hs,a≠C.P:=fun a ha e=>(al a ha).2 (qO _ (jz _ (e▸fs.hP)))
 refine q hs _ (((KP.kw kp (Z:=ZO OL env)).trans z5).lastJ (J:=[L]) (fun b hb=>by replace hb:=j4.mp hb;subst hb;exact hL) kj fun b hb=> .inl hb) (xa.lastJ kj (fun a ha=>by replace ha:=j4.mp ha;subst ha;exact hLY) (jz _ fs.hP) (fun p hp=>jz _ (fs.cY p hp)) fun a ha=>jz _ (fs.wY a ha)) (ll.keep fun a ha o e=> ?_) yY (pw.imp fun h=>Nat.ne_of_lt h)
 have e2:=z5.heap (dH a ha) (aj a (qO _ ha)) e
 exact kj.heap (fun hm=>by replace hm:=j4.mp hm;exact hLhs (hm▸ha)) e2
theorem jEz(S:wt C n r)(S':SE C m r')(a1:yW (m+1) A){f x y:Str}{fn:Fn}{first:Stmt}{mid:List Stmt}{af:Addr}{o:Obj}{pm code doc:Value}(c3:C3At C r f fn first mid af o pm code doc)(room:yA (n+1) A){vI:List Addr}(fs:FS C m k A env (vI++Y) OL l s)
  {e1:Expr} {g1:Comprehension} {gs1:List Comprehension} {xF:Scope} {em1:Loc->Option D} {i1:List D} {d1:D} {xs1 xs2:List (List Str)} {out:List Str}
  (F1:∀ce,ce.scope=jR env.scope xF->gh C m k A ce e1 em1) (h11:r'.E k env.scope (jV l) g1.iter=some d1) (h12:ju d1=some i1) (ok1:jm env.scope xF (g1::gs1)=true) (ic:comp r' k (jR env.scope xF) em1 (g1::gs1) (jL xF (jV l)) i1=some (qS xs1)) (wu:xs1.length<=1000)
  (hy:l y=some (.val (.list (qj vI)))) (hyd:(y==("__debug__":Str))=false/\(y==("__classdict__":Str))=false) (eg:LL C s.heap vI (qS xs2)) (hnY2:∀a∈vI,a∉Y) (nd2:vI.Nodup) (hl2:xs2.length<=1000) (hP:C.P∈Y) (cY:∀p∈env.cells,p.2∈Y) (wY:∀a∈jB env,a∈Y)
  (kx:out≠[]\/xs1++xs2=[]) (run:∀hs:List Addr,hs.Nodup->hs.length=(xs1++xs2).length->∃N,gA r fn.scope mid hs (yR hs (xs1++xs2)) [] out N)
  (hx:env.kindOf x=some .local\/env.kindOf x=some .cell) (iX:env.kindOf f=some .globalImplicit) {p0 p1 p2 p3 p4 q1 q2:Pos} {Q:vo} {E:q4}
  (q:∀s',KW C (fun b=>ZO OL env b\/b∈vI) s s'->FS C m k A env Y OL (jA l x (.val (.list (out.map .str)))) s'->Q .next s'):
  wpAny C.M A (exec (.Assign [.Name x p0] (.Call (.Name f p1) [.BinOp (.ListComp e1 (g1::gs1) xF q1) .Add (.Name y q2) p2] [] p3) p4) env) Q E s:=by
 have t0:=fs.pre.gr.tab
 have jw:lim=1000000:=rfl
 refine wpAny_Assign_Name ?_ (by rfl)
 refine Call_Name rfl (ne (ql fs.pre iX c3.hm c3.db ?_))
 refine callWith_function (o:=o) (fd:=docDef f fn.params fn.body fn.scope pm code doc) (evalArgs_plain (spliced_cons (wpAny_BinOp (ne (jDf S' a1 F1 fs h11 h12 ok1 ic j8 fun v1 u5 s1 zE qP rv1 sh wX nd1=>ne (xw qP hy hyd.1 hyd.2 fun v2 eS=> ?_))))))
 have l1e:(qj u5).length=xs1.length:=by rw[List.length_map,sh.append_inv,List.length_map]
 have l2e:(qj vI).length=xs2.length:=by rw[List.length_map,eg.append_inv,List.length_map]
 refine ne (wB (a:= .list (qj u5)) (b:= .list (qj vI)) (d:= .list (qj u5++qj vI)) qP.pre.hP qP.pre.lt (by
  refine(?_:(if (qj u5).length+(qj vI).length<=lim then some (D.list (qj u5++qj vI)) else none)=_)
  rw[if_pos (by lia)]) rv1 eS fun v3 s3 fx rv3=>spliced_nil ⟨⟨(qP.kp fx).pre.gr.keep _ _ c3.ho,c3.hd⟩,?_⟩)
 have yB:FS C m k A env ((u5++vI)++Y) OL l s3:=by rw[List.append_assoc];exact qP.kp fx
 have hex2:=eg.ex
 have hdis:∀a∈u5,∀b∈vI,a≠b:=fun a ha b hb e=>by
  obtain⟨oo,h⟩:=hex2 b hb
  rw[<-e,wX a ha] at h;exact zn h
 have hnY1:∀a∈u5,a∉Y:=fun a ha hm=>by
  obtain⟨oo,h⟩:=fs.pre.hYs a (jz _ (jz _ hm))
  rw[wX a ha] at h;exact zn h
 have nP1:∀a∈u5,a≠C.P:=fun a ha e=>hnY1 a ha (e▸hP)
 have nP2:∀a∈vI,a≠C.P:=fun a ha e=>hnY2 a ha (e▸hP)
 have kL:(u5++vI).Nodup:=List.nodup_append.mpr ⟨nd1,nd2,fun a ha b hb=>hdis a ha b hb⟩
 have ll:LL C s3.heap (u5++vI) (qS (xs1++xs2)):=by
  rw[qS,List.map_append]
  exact LL.append (eg.keep fun a ha o e=>fx.heap (nP2 a ha) (zE.heap (nP2 a ha) e)) (sh.keep fun a ha o e=>fx.heap (nP1 a ha) e)
 have hlen:(u5++vI).length=(xs1++xs2).length:=by
  have:=ll.append_inv
  rw[this,List.length_map]
 obtain⟨N,hrun⟩:=run (u5++vI) kL hlen
 have rv3':RD C s3.heap (q6 OL++((u5++vI)++Y)) v3 (.list (qj (u5++vI))):=by
  rw[qj,List.map_append,List.append_assoc]
  exact rv3
 refine jFr S c3.hf c3.ho c3.hd c3.hc room yB c3.start rv3' kL ll (fun a ha=>(jq.mp ha).elim (hnY1 a) (hnY2 a)) hP cY wY (kx.imp id fun h=> ?_) hrun fun v4 s4 yx yw rv4=> ?_
 ·have:=hlen
  rw[h] at this
  exact List.length_eq_zero_iff.mp this
 ·refine ne (yw.assign hx rv4 fun s5 dq kW=>q s5 ?_ kW)
  have kwa:KW C (fun b=>ZO OL env b\/b∈vI) s s4:=(KP.kw (zE.trans fx) (Z:=fun b=>ZO OL env b\/b∈vI)).transNew yx fun b hb=>by
   rcases jq.mp hb with hb|hb
   ·exact .inr (wX b hb)
   ·exact .inl (.inr hb)
  exact kwa.trans (dq.mono fun b hb=> .inl hb)
noncomputable def m9:Expr:= .Constant .none 0 ⟨0,0,0,0⟩
noncomputable def qR(b:List Stmt)(i:Nat):Stmt:=b.getD i (.Pass ⟨0,0,0,0⟩)
noncomputable def tw(b:List Expr)(i:Nat):Expr:=b.getD i (.Constant .none 0 ⟨0,0,0,0⟩)
noncomputable def rq(e:Stmt):Expr:=by
 induction e using cS with
 |For t _ _ _ _=>exact t
 |_=>exact m9
noncomputable def itE(e:Stmt):Expr:=by
 induction e using cS with
 |For _ i _ _ _=>exact i
 |_=>exact m9
noncomputable def xH(e:Stmt):List Stmt:=by
 induction e using cS with
 |For _ _ b _ _=>exact b
 |_=>exact[]
noncomputable def forO(e:Stmt):List Stmt:=by
 induction e using cS with
 |For _ _ _ b _=>exact b
 |_=>exact[]
noncomputable def aB(e:Stmt):Expr:=by
 induction e using cS with
 |If t _ _ _=>exact t
 |_=>exact m9
noncomputable def aC(e:Stmt):List Stmt:=by
 induction e using cS with
 |If _ b _ _=>exact b
 |_=>exact[]
noncomputable def ifO(e:Stmt):List Stmt:=by
 induction e using cS with
 |If _ _ b _=>exact b
 |_=>exact[]
noncomputable def whB(e:Stmt):List Stmt:=by
 induction e using cS with
 |While _ b _ _=>exact b
 |_=>exact[]
noncomputable def lA(e:Stmt):Expr:=by
 induction e using cS with
 |Assign _ v _=>exact v
 |_=>exact m9
noncomputable def asT(e:Stmt):Expr:=by
 induction e using cS with
 |Assign ts _ _=>exact tw ts 0
 |_=>exact m9
noncomputable def retE(e:Stmt):Expr:=by
 induction e using cS with
 |Return v _=>exact v.getD m9
 |_=>exact m9
noncomputable def tryH(e:Stmt):List ExceptHandler:=by
 induction e using cS with
 |Try _ hs _ _ _=>exact hs
 |_=>exact[]
noncomputable def tupE(e:Expr):List Expr:=by
 induction e using cE with
 |Tuple es _ _=>exact es
 |_=>exact[]
noncomputable def slcE(e:Expr):Expr:=by
 induction e using cE with
 |Subscript _ i _=>exact i
 |_=>exact m9
noncomputable def cW(e:Expr):List Expr:=by
 induction e using cE with
 |Call _ as _ _=>exact as
 |_=>exact[]
noncomputable def binL?(e:Expr):Option Expr:=by
 induction e using cE with
 |BinOp a _ _ _=>exact some a
 |_=>exact none
noncomputable def lcE(e:Expr):Expr:=by
 induction e using cE with
 |ListComp e _ _ _=>exact e
 |_=>exact m9
noncomputable def isSlice(e:Expr):Bool:=by
 induction e using cE with
 |Slice _ _ _ _=>exact true
 |_=>exact false
noncomputable def fnS(e:Stmt):Option (Str×Fn):=by
 induction e using cS with
 |FunctionDef name args body _ _ _ scope _ _ _=>exact some (name,⟨args,body,scope⟩)
 |_=>exact none
noncomputable def fnsAll(p:Program):List (Str×Fn):=p.main.body.filterMap fnS
noncomputable def fn0:Fn:=⟨⟨[],[],none,[],[],none,[]⟩,[],⟨.function,[],false,false,[]⟩⟩
noncomputable def fnAt(p:Program)(f:Str):Fn:=((fnsAll p).lookup f).getD fn0
noncomputable def jCg(b:List Stmt):Expr:=slcE (asT (qR b 3))
noncomputable def jCr(b:List Stmt):Expr:=tw (tupE (retE (qR b 4))) 1
noncomputable def ow(b:List Stmt):Stmt:=qR b 0
noncomputable def pT(b:List Stmt):List Stmt:=(whB (qR b 1)).take 5
noncomputable def posH1:List Pos:=[⟨131,4,131,8⟩,⟨131,10,131,17⟩,⟨131,19,131,26⟩,⟨131,4,131,26⟩,⟨131,29,131,34⟩,⟨131,4,131,34⟩,⟨133,16,133,20⟩,⟨133,22,133,29⟩,⟨133,33,133,41⟩,⟨133,42,133,47⟩,⟨133,33,133,48⟩,⟨133,32,133,49⟩,⟨133,22,133,49⟩,⟨133,51,133,58⟩,⟨133,15,133,59⟩,⟨133,8,133,59⟩,⟨134,11,134,22⟩,⟨135,8,135,13⟩,⟨135,16,135,19⟩,⟨135,20,135,25⟩,⟨135,16,135,26⟩,⟨135,8,135,26⟩,⟨134,4,135,26⟩,⟨132,4,135,26⟩,⟨137,8,137,13⟩,⟨137,16,137,24⟩,⟨137,25,137,30⟩,⟨137,33,137,39⟩,⟨137,41,137,43⟩,⟨137,32,137,44⟩,⟨137,16,137,45⟩,⟨137,8,137,45⟩,⟨138,11,138,22⟩,⟨139,16,139,20⟩,⟨139,22,139,29⟩,⟨139,31,139,38⟩,⟨139,42,139,47⟩,⟨139,50,139,53⟩,⟨139,54,139,59⟩,⟨139,50,139,60⟩,⟨139,42,139,60⟩,⟨139,41,139,61⟩,⟨139,31,139,61⟩,⟨139,15,139,62⟩,⟨139,8,139,62⟩,⟨138,4,139,62⟩,⟨140,11,140,22⟩,⟨141,16,141,20⟩,⟨141,22,141,29⟩,⟨141,31,141,38⟩,⟨141,42,141,45⟩,⟨141,46,141,51⟩,⟨141,42,141,52⟩,⟨141,41,141,53⟩,⟨141,31,141,53⟩,⟨141,15,141,54⟩,⟨141,8,141,54⟩,⟨140,4,141,54⟩,⟨136,4,141,54⟩,⟨142,4,142,8⟩,⟨142,4,142,20⟩,⟨142,23,142,28⟩,⟨142,4,142,28⟩,⟨143,12,143,16⟩,⟨143,31,143,38⟩,⟨143,11,143,39⟩,⟨143,4,143,39⟩]
noncomputable def zU:Fn:=fnAt Challenge.pw_oy0159_01 "_law_heard"
theorem hrd1:kI zU "waiting" "refused" (jCg zU.body) (jCr zU.body) where
 ok:=kR
 names:=kR
 loc:=by decide+kernel
 glb:=by decide+kernel
 ne1:=by decide+kernel
 ne2:=by decide+kernel
 dbg:=by decide+kernel
 shape:=⟨fun k=>posH1.getD k ⟨0,0,0,0⟩,kR,kR⟩
noncomputable def posC1:List Pos:=[⟨17,10,17,14⟩,⟨32,12,32,15⟩,⟨32,19,32,28⟩,⟨33,15,33,18⟩,⟨33,19,33,20⟩,⟨33,15,33,21⟩,⟨33,25,33,34⟩,⟨33,15,33,34⟩,⟨34,20,34,23⟩,⟨34,24,34,25⟩,⟨34,20,34,26⟩,⟨34,16,34,26⟩,⟨33,12,34,26⟩,⟨32,8,34,26⟩,⟨17,4,34,26⟩]
noncomputable def yj:Fn:=fnAt Challenge.pw_oy0159_01 "_c3_merge"
theorem c3f1:nJ yj (ow yj.body) (pT yj.body) where
 ok:=kR
 names:=kR
 seq:=kR
 shape:=⟨fun k=>posC1.getD k ⟨0,0,0,0⟩,kR⟩
theorem jJx(fns:List (Str×Fn))(glob:xO)(n:Nat):∀l:jQ,∃l1,qV (ev fns glob (n+2)) false yj.scope l [ow yj.body]=some (.next,l1)/\l1 "result"=some (.own [])/\∀y:Str,y≠"result"->l1 y=l y:=by
 intro l
 refine vM (jA l "result" (.own [])) (by rfl) (by unfold jA;rw[if_pos rfl]) (fun y hy=>by unfold jA;rw[if_neg hy])
end
section
variable{r:Ev}{k:Bool}{sc:Scope}{l:Loc}{g:Comprehension}{deep:Loc->Option (List D)}
theorem yc{α:Type}(f:α->D)(t:α->Bool)(e:α->List D)(xs:List α)(h:∀x∈xs,∃l',wU l g.target (f x)=some l'/\xK r k sc l' g.ifs=some (t x)/\(t x=true->deep l'=some (e x))):
  compLoop r k sc l g deep (xs.map f)=some (xs.flatMap fun x=>if t x then e x else []):=by
 induction xs with
 |nil=>rfl
 |cons x xs ih=>
  refine xQ (h x jk) fun l' h1 h2 h3=> ?_
  have ih:=ih fun y hy=>h y (qO _ hy)
  refine(?_:(do
   let l'<-wU l g.target (f x)
   let ok<-xK r k sc l' g.ifs
   let here<-if ok then deep l' else some []
   let more<-compLoop r k sc l g deep (xs.map f)
   some (here++more))=_)
  rw[h1,ih]
  generalize ht:t x=x0;induction x0 using cT with
  |true=>
   rw[ht] at h2
   simp[h2,h3 ht,ht]
  |false=>
   rw[ht] at h2
   simp[h2,ht]
variable{fns:List (Str×Fn)}{glob:xO}{jS:Scope}{gs:List Comprehension}{elt:Expr}{pos:Pos}{n:Nat}
theorem evComp{α:Type}(f:α->D)(t:α->Bool)(e:α->D)(xs:List α)(hit:(ev fns glob n).E k sc l g.iter=some (.list (xs.map f)))(ok:jm sc jS [g]=true)
  (h:∀x∈xs,∃l',wU (jL jS l) g.target (f x)=some l'/\xK (ev fns glob n) k (jR sc jS) l' g.ifs=some (t x)/\(t x=true->(ev fns glob n).E k (jR sc jS) l' elt=some (e x))) (hl:xs.length<=lim):
  (ev fns glob (n+1)).E k sc l (.ListComp elt [g] jS pos)=some (.list ((xs.filter t).map e)):=by
 have h1:compLoop (ev fns glob n) k (jR sc jS) (jL jS l) g (fun l'=>((ev fns glob n).E k (jR sc jS) l' elt).map fun x=>[x]) (xs.map f)=some (xs.flatMap fun x=>if t x then [e x] else []):=by
  refine yc f t (fun x=>[e x]) xs fun x hx=> ?_
  refine xQ (h x hx) fun l' a b c=> ?_
  exact vM l' a b (fun ht=>by rw[c ht];rfl)
 have h2:(xs.flatMap fun x=>if t x then [e x] else [])=(xs.filter t).map e:=by
  clear h h1 hit hl
  induction xs with
  |nil=>rfl
  |cons x xs ih=>
   rw[List.flatMap_cons,ih]
   generalize ht:t x=x0;induction x0 using cT with
   |true=>simp[List.filter_cons,ht]
   |false=>simp[List.filter_cons,ht]
 rw[h2] at h1
 have hlen:((xs.filter t).map e).length<=lim:=by
  rw[List.length_map]
  exact xJ (List.length_filter_le _ _) hl
 refine(?_:(do
   let its<-((ev fns glob n).E k sc l g.iter).bind ju
   if jm sc jS [g]=true then
    let ds<-comp (ev fns glob n) k (jR sc jS) (fun l'=>(ev fns glob n).E k (jR sc jS) l' elt) [g] (jL jS l) its
    if ds.length<=lim then some (D.list ds) else none
   else none)=_)
 rw[hit]
 refine(?_:(if jm sc jS [g]=true then (do
    let ds<-compLoop (ev fns glob n) k (jR sc jS) (jL jS l) g (fun l'=>((ev fns glob n).E k (jR sc jS) l' elt).map fun x=>[x]) (xs.map f)
    if ds.length<=lim then some (D.list ds) else none) else none)=_)
 rw[if_pos ok,h1]
 refine(?_:(if ((xs.filter t).map e).length<=lim then some (D.list ((xs.filter t).map e)) else none)=_)
 rw[if_pos hlen]
noncomputable def rz:Scope:={ kind:= .function,names:=[(".0",.local),("s",.local)],isGenerator:=false,isCoroutine:=false,more:=[] }
noncomputable def rn(p:Nat->Pos):List Stmt:=[
 .Assign [.Name "sequences" (p 0)] (.ListComp (.Name "s" (p 1)) [⟨.Name "s" (p 2),.Name "sequences" (p 3),[.Name "s" (p 4)],0⟩] rz (p 5)) (p 6),
 .If (.UnaryOp .Not (.Name "sequences" (p 7)) (p 8)) [.Return (some (.Name "result" (p 9))) (p 10)] [] (p 11),
 .For (.Name "s1" (p 12)) (.Name "sequences" (p 13)) [
  .Assign [.Name "candidate" (p 14)] (.Subscript (.Name "s1" (p 15)) (.Constant (.int 0) 0 (p 16)) (p 17)) (p 18),
  .For (.Name "s2" (p 19)) (.Name "sequences" (p 20)) [
   .If (.Compare (.Name "candidate" (p 21)) [.In] [.Subscript (.Name "s2" (p 22)) (.Slice (some (.Constant (.int 1) 0 (p 23))) none none (p 24)) (p 25)] (p 26))
    [.Assign [.Name "candidate" (p 27)] (.Constant .none 0 (p 28)) (p 29),.Break (p 30)] [] (p 31)] [.Break (p 32)] (p 33)] [] (p 34),
 .If (.Compare (.Name "candidate" (p 35)) [.Is] [.Constant .none 0 (p 36)] (p 37)) [.Raise (some (.Call (.Name "RuntimeError" (p 38)) [.Constant (.str "Inconsistent hierarchy") 0 (p 39)] [] (p 40))) none (p 41)] [] (p 42),
 .Expr (.Call (.Attribute (.Name "result" (p 43)) "append" (p 44)) [.Name "candidate" (p 45)] [] (p 46)) (p 47)]
noncomputable def posM1:List Pos:=[⟨18,8,18,17⟩,⟨18,21,18,22⟩,⟨18,27,18,28⟩,⟨18,32,18,41⟩,⟨18,45,18,46⟩,⟨18,20,18,47⟩,⟨18,8,18,47⟩,⟨19,15,19,24⟩,⟨19,11,19,24⟩,⟨20,19,20,25⟩,⟨20,12,20,25⟩,⟨19,8,20,25⟩,⟨21,12,21,14⟩,⟨21,18,21,27⟩,⟨22,12,22,21⟩,⟨22,24,22,26⟩,⟨22,27,22,28⟩,⟨22,24,22,29⟩,⟨22,12,22,29⟩,⟨23,16,23,18⟩,⟨23,22,23,31⟩,⟨24,19,24,28⟩,⟨24,32,24,34⟩,⟨24,35,24,36⟩,⟨24,35,24,37⟩,⟨24,32,24,38⟩,⟨24,19,24,38⟩,⟨25,20,25,29⟩,⟨25,32,25,36⟩,⟨25,20,25,36⟩,⟨26,20,26,25⟩,⟨24,16,26,25⟩,⟨28,16,28,21⟩,⟨23,12,28,21⟩,⟨21,8,28,21⟩,⟨29,11,29,20⟩,⟨29,24,29,28⟩,⟨29,11,29,28⟩,⟨30,18,30,30⟩,⟨30,31,30,55⟩,⟨30,18,30,56⟩,⟨30,12,30,56⟩,⟨29,8,30,56⟩,⟨31,8,31,14⟩,⟨31,8,31,21⟩,⟨31,22,31,31⟩,⟨31,8,31,32⟩,⟨31,8,31,32⟩]
theorem mid1:pT yj.body=rn (fun k=>posM1.getD k ⟨0,0,0,0⟩):=kR
end
section
variable{fns:List (Str×Fn)}{glob:xO}{k:Bool}{sc:Scope}{l:jQ}{n:Nat}
theorem uN{x:Str}{p:Pos}{l:Loc}(h1:(x==("__debug__":Str)||x==("__classdict__":Str))=false)(hk:sc.names.lookup x=some .local\/sc.names.lookup x=some .cell\/sc.names.lookup x=some .free):(ev fns glob (n+1)).E k sc l (.Name x p)=l x:=by
 refine(?_:(if (x==("__debug__":Str)||x==("__classdict__":Str))=true then none else (sc.names.lookup x).bind fun kd=>ec kd (l x) (if (fns.lookup x).isSome then none else glob.lookup x))=l x)
 rw[h1]
 rcases hk with hk|hk|hk <;> rw[hk] <;> rfl
theorem jD3{hs:List Addr}{cur:Addr->List Str}{p1 p2 p3 p4 p5 p6:Pos}(hk:sc.names.lookup ("sequences":Str)=some .local)(ok:jm sc rz [⟨.Name "s" p2,.Name "sequences" p3,[.Name "s" p4],0⟩]=true)
  (hl:l "sequences"=some (.val (.list (qW hs cur)))) (hlen:hs.length<=lim) (xq:∀a∈hs,(cur a).length<=lim):
  (ev fns glob (n+3)).E false sc (jV l) (.ListComp (.Name "s" p1) [⟨.Name "s" p2,.Name "sequences" p3,[.Name "s" p4],0⟩] rz p5)=some (.list (qW (hs.filter fun a=> !(cur a).isEmpty) cur)):=by
 have hos:(jR sc rz).names.lookup ("s":Str)=some .local:=by rfl
 refine evComp (fun a=>D.lref a ((cur a).map .str)) (fun a=> !(cur a).isEmpty) (fun a=>D.lref a ((cur a).map .str)) hs ?_ ok (fun a ha=> ?_) hlen
 ·refine(?_:(ev fns glob (n+2)).E false sc (jV l) (.Name "sequences" p3)=_)
  rw[uN kD (.inl hk)]
  unfold jV;rw[hl]
 ·refine vM (jA (jL rz (jV l)) "s" (.lref a ((cur a).map .str))) ?_ ?_ (fun _=> ?_)
  ·refine(?_:(if (jL rz (jV l) "s").isSome=true then none else some (jA (jL rz (jV l)) "s" (D.lref a ((cur a).map .str))))=_)
   rw[if_neg]
   unfold jL
   rw[if_neg kD]
   simp
  ·refine(?_:((ev fns glob (n+2)).E false (jR sc rz) (jA (jL rz (jV l)) "s" (.lref a ((cur a).map .str))) (.Name "s" p4)).bind kn=_)
   rw[uN kD (.inl hos)]
   unfold jA
   rw[if_pos rfl]
   refine(?_:(if ((cur a).map D.str).length<=lim then some (!((cur a).map D.str).isEmpty) else none)=_)
   rw[if_pos (by simpa using xq a ha)]
   simp
  ·rw[uN kD (.inl hos)]
   unfold jA
   rw[if_pos rfl]
noncomputable def xU(seqs:List (List Str))(c:Str):Bool:=seqs.all fun s=> !(s.drop 1).contains c
noncomputable def ym(seqs:List (List Str)):List (List Str)->Option Str
 |[]=>none
 |s::rest=>s.head?.bind fun c=>if xU seqs c then some c else ym seqs rest
noncomputable def wc:Nat->List (List Str)->Option (List Str)
 |0,_=>none
 |n+1,seqs=>
  let live:=seqs.filter fun s=> !s.isEmpty
  if live.isEmpty then some [] else (ym live live).bind fun c=>(wc n (live.map fun s=>if s.head? =some c then s.tail else s)).map (c::·)
theorem jD4(n:Nat)(seqs:List (List Str)):wc (n+1) seqs=if (seqs.filter fun s=> !s.isEmpty).isEmpty then some [] else (ym (seqs.filter fun s=> !s.isEmpty) (seqs.filter fun s=> !s.isEmpty)).bind fun c=>(wc n ((seqs.filter fun s=> !s.isEmpty).map fun s=>if s.head? =some c then s.tail else s)).map (c::·):=rfl
structure Ord(R:Str->Str->Prop):Prop where
 irr:∀x,¬R x x
 tr:∀x y z,R x y->R y z->R x z
theorem Ord.min{R:Str->Str->Prop}(O:Ord R):∀l:List Str,l≠[]->∃m∈l,∀x∈l,¬R x m
 |[],h=>absurd rfl h
 |[a],_=>⟨a,jk,fun x hx=>by replace hx:=j4.mp hx;subst hx;exact O.irr _⟩
 |a::b::l,_=>by
  refine jH (O.min (b::l) (by simp)) fun m hm h=> ?_
  by_cases e:R a m
  ·refine⟨a,jk,fun x hx hxa=> ?_⟩
   rcases j0.mp hx with rfl|hx
   ·exact O.irr _ hxa
   ·exact h x hx (O.tr _ _ _ hxa e)
  ·refine⟨m,qO _ hm,fun x hx=> ?_⟩
   rcases j0.mp hx with rfl|hx
   ·exact e
   ·exact h x hx
theorem jHj{seqs:List (List Str)}(rest:List (List Str)):(∀s∈rest,s≠[])->(∃s∈rest,∃c,s.head? =some c/\xU seqs c=true)->∃c,ym seqs rest=some c/\xU seqs c=true/\∃s∈rest,s.head? =some c:=by
 induction rest with
 |nil=>
  rintro _ ⟨s,hs,_⟩
  cases hs
 |cons s rest ih=>
  rintro jv ⟨t,ht,c,h1,h2⟩
  have hs:=jv s jk
  obtain⟨d,ds,rfl⟩:∃d ds,s=d::ds:=by
   induction s using cL with
   |nil=>exact absurd rfl hs
   |cons d ds=>exact⟨d,ds,rfl⟩
  refine(?_:∃c,(if xU seqs d=true then some d else ym seqs rest)=some c/\_)
  by_cases e:xU seqs d=true
  ·rw[if_pos e]
   exact⟨d,rfl,e,_,jk,rfl⟩
  ·rw[if_neg e]
   rcases j0.mp ht with rfl|ht
   ·have h1:some d=some c:=h1
    replace h1:=j6 h1;subst h1
    exact absurd h2 e
   ·obtain⟨c',g1,g2,u,hu,g3⟩:=ih (fun s hs=>jv s (qO _ hs)) ⟨t,ht,c,h1,h2⟩
    exact⟨c',g1,g2,u,qO _ hu,g3⟩
noncomputable def total(seqs:List (List Str)):Nat:=(seqs.map List.length).sum
theorem jAi:∀seqs:List (List Str),total (seqs.filter fun s=> !s.isEmpty)=total seqs
 |[]=>rfl
 |s::seqs=>by
  have ih:=jAi seqs
  unfold total at ih ⊢
  induction s using cL with
  |nil=>rw[List.filter_cons_of_neg (by simp)];simpa using ih
  |cons a s=>rw[List.filter_cons_of_pos (by simp),List.map_cons,List.map_cons,List.sum_cons,List.sum_cons,ih]
theorem jA2(c:Str):∀seqs:List (List Str),total (seqs.map fun s=>if s.head? =some c then s.tail else s)<=total seqs/\((∃s∈seqs,s.head? =some c)->total (seqs.map fun s=>if s.head? =some c then s.tail else s)<total seqs)
 |[]=>⟨Nat.le_refl _,fun⟨s,hs,_⟩=>by cases hs⟩
 |s::seqs=>by
  obtain⟨i1,i2⟩:=jA2 c seqs
  unfold total at *
  simp only[List.map_cons,List.sum_cons]
  by_cases e:s.head? =some c
  ·rw[if_pos e]
   have:s.tail.length+1=s.length:=by
    induction s using cL with
    |nil=>cases e
    |cons a s=>rfl
   exact⟨by lia,fun _=>by lia⟩
  ·rw[if_neg e]
   refine⟨by lia,fun⟨t,ht,h⟩=> ?_⟩
   rcases j0.mp ht with rfl|ht
   ·exact absurd h e
   ·have:=i2 ⟨t,ht,h⟩;lia
theorem jFq{R:Str->Str->Prop}(O:Ord R)(m:Nat):∀(seqs:List (List Str)),total seqs<m->(∀s∈seqs,s.Pairwise R)->
  ∃out,wc m seqs=some out/\out.Nodup/\(∀z,z∈out↔∃s∈seqs,z∈s)/\∀s∈seqs,s.Sublist out:=by
 induction m with
 |zero=>
  intro _ h _
  exact absurd h (Nat.not_lt_zero _)
 |succ m ih=>
  intro seqs h hR
  rw[jD4]
  have ht:=jAi seqs
  have wQ:∀s∈seqs.filter (fun s=> !s.isEmpty),s∈seqs/\s≠[]:=fun s hs=>by
   obtain⟨h1,h2⟩:=qG.mp hs
   exact⟨h1,fun e=>by rw[e] at h2;cases h2⟩
  have kx:∀s∈seqs,s∉seqs.filter (fun s=> !s.isEmpty)->s=[]:=fun s hs hn=>by
   induction s using cL with
   |nil=>rfl
   |cons a s=>exact absurd (qG.mpr ⟨hs,rfl⟩) hn
  generalize hl:seqs.filter (fun s=> !s.isEmpty)=live at *
  by_cases he:live=[]
  ·subst he
   have mu:∀s∈seqs,s=[]:=fun s hs=>kx s hs (by simp)
   refine⟨[],rfl,List.nodup_nil,fun z=> ?_,fun s hs=>by rw[mu s hs];exact List.Sublist.refl _⟩
   constructor
   ·intro hz;cases hz
   ·intro y0
    refine jH y0 fun s hs hz=> ?_;clear y0
    rw[mu s hs] at hz;cases hz
  ·have cA:live.isEmpty=false:=by
    induction live using cL with
    |nil=>exact absurd rfl he
    |cons a r=>rfl
   rw[cA]
   simp only[Bool.false_eq_true,if_false]
   have hheads:live.filterMap List.head? ≠[]:=by
    induction live using cL with
    |nil=>exact absurd rfl he
    |cons a r=>
     induction a using cL with
     |nil=>exact absurd rfl (wQ [] jk).2
     |cons x a=>simp
   refine jH (O.min _ hheads) fun c0 hc0 hmin=> ?_
   refine jH (List.mem_filterMap.mp hc0) fun s0 hs0 hh0=> ?_
   have hok0:xU live c0=true:=by
    unfold xU
    rw[List.all_eq_true]
    intro t tP
    induction t using cL with
    |nil=>rfl
    |cons d t=>
     simp only[List.drop_succ_cons,List.drop_zero,Bool.not_eq_true',List.contains_eq_mem,decide_eq_false_iff_not]
     intro hm
     have hp:=List.rel_of_pairwise_cons (hR _ (wQ _ tP).1) hm
     exact hmin d (List.mem_filterMap.mpr ⟨d::t,tP,rfl⟩) hp
   obtain⟨c,g1,g2,s1,u5,g3⟩:=jHj (seqs:=live) live (fun s hs=>(wQ s hs).2) ⟨s0,hs0,c0,hh0,hok0⟩
   rw[g1]
   have bG:∀s∈live,c∉s.tail:=fun s hs hm=>by
    have:=List.all_eq_true.mp g2 s hs
    rw[List.drop_one] at this
    simp at this
    exact this hm
   have vF:=(jA2 c live).2 ⟨s1,u5,g3⟩
   have hR':∀s∈live.map (fun s=>if s.head? =some c then s.tail else s),s.Pairwise R:=fun s hs=>by
    refine lE hs ?_;rintro t tP rfl
    have hp:=hR t (wQ t tP).1
    split
    ·induction t using cL with
     |nil=>exact hp
     |cons d t=>exact(List.pairwise_cons.mp hp).2
    ·exact hp
   obtain⟨out,k1,k2,k3,k4⟩:=ih (live.map fun s:List Str=>if s.head? =some c then s.tail else s) (by lia) hR'
   have hcn:c∉out:=fun hm=>by
    refine jH ((k3 c).mp hm) fun s hs hz=> ?_
    refine lE hs ?_;rintro t tP rfl
    split at hz
    ·exact bG t tP hz
    ·rename_i jv
     induction t using cL with
     |nil=>cases hz
     |cons d t=>
      rcases j0.mp hz with rfl|hz
      ·exact jv rfl
      ·exact bG _ tP hz
   refine⟨c::out,by refine(?_:(wc m _).map (c::·)=_);rw[k1];rfl,y7.mpr ⟨hcn,k2⟩,fun z=> ?_,fun s hs=> ?_⟩
   ·constructor
    ·intro hz
     rcases j0.mp hz with rfl|hz
     ·refine⟨s1,(wQ s1 u5).1,?_⟩
      induction s1 using cL with
      |nil=>cases g3
      |cons d t=>
       have:some d=some z:=g3
       replace this:=j6 this;subst this
       exact jk
     ·refine jH ((k3 z).mp hz) fun s hs hz=> ?_
      refine lE hs ?_;rintro t tP rfl
      refine⟨t,(wQ t tP).1,?_⟩
      split at hz
      ·exact List.mem_of_mem_tail hz
      ·exact hz
    ·intro y0
     refine jH y0 fun s hs hz=> ?_;clear y0
     have bC:s∈live:=Classical.byContradiction fun hn=>by rw[kx s hs hn] at hz;cases hz
     by_cases e:z=c
     ·rw[e];exact jk
     ·refine qO _ ((k3 z).mpr ⟨_,List.mem_map_of_mem bC,?_⟩)
      split
      ·induction s using cL with
       |nil=>cases hz
       |cons d t=>
        rename_i h
        have:some d=some c:=h
        replace this:=j6 this;subst this
        rcases j0.mp hz with rfl|hz
        ·exact absurd rfl e
        ·exact hz
      ·exact hz
   ·by_cases bC:s∈live
    ·have:=k4 _ (List.mem_map_of_mem (f:=fun s:List Str=>if s.head? =some c then s.tail else s) bC)
     split at this
     ·induction s using cL with
      |nil=>exact List.nil_sublist _
      |cons d t=>
       rename_i h
       have h:some d=some c:=h
       replace h:=j6 h;subst h
       exact List.Sublist.cons_cons _ this
     ·exact List.Sublist.cons _ this
    ·rw[kx s hs bC]
     exact List.nil_sublist _
theorem jA7{α:Type}(ds:List α):∀(n a:Nat),a+n<=ds.length->((List.range n).map fun k=>a+k).filterMap (ds[·]?)=(ds.drop a).take n
 |0,a,_=>by simp
 |n+1,a,h=>by
  rw[List.range_succ,List.map_append,List.filterMap_append,jA7 ds n a (by refine xJ ?_ (by assumption);simp+arith),List.take_add_one,List.getElem?_drop]
  have:a+n<ds.length:=by lia
  simp[this]
theorem srange(a n:Nat):sliceRange (a:Int) ((a+n:Nat):Int) 1=(List.range n).map fun k=>a+k:=by
 unfold sliceRange
 rw[if_pos kD]
 have e:(if (a:Int)<((a+n:Nat):Int) then (((a+n:Nat):Int) - (a:Int)+1 - 1) / 1 else 0)=(n:Int):=by
  induction n using cN with
  |zero=>rw[if_neg (show¬(a:Int)<((a+0:Nat):Int) from Int.lt_irrefl _)];rfl
  |succ n=>
   rw[if_pos (Int.ofNat_lt.mpr (Nat.lt_add_of_pos_right (Nat.succ_pos n))),Int.add_sub_cancel,Int.ediv_one,Int.natCast_add,Int.add_comm,Int.add_sub_cancel]
 refine(?_:(List.range (if (a:Int)<((a+n:Nat):Int) then (((a+n:Nat):Int) - (a:Int)+1 - 1) / 1 else 0).toNat).map (fun k:Nat=>((a:Int)+1 * (k:Int)).toNat)=_)
 rw[e]
 refine List.map_congr_left fun k _=> ?_
 rw[Int.one_mul]
 rfl
theorem jGm(ds:List D){lo hi:Option Int}{a:Nat}(h:sliceBounds lo hi none ds.length=((a:Int),((a+n:Nat):Int),1))(hl:a+n<=ds.length):pick ds lo hi none=(ds.drop a).take n:=by
 unfold pick
 rw[h]
 exact(congrArg (List.filterMap (ds[·]?)) (srange a n)).trans (jA7 ds n a hl)
theorem pick_from(ds:List D)(a:Nat):pick ds (some (a:Int)) none none=ds.drop a:=by
 have e:min a ds.length+(ds.length - min a ds.length)=ds.length:=Nat.add_sub_cancel' (Nat.min_le_right _ _)
 have h1:(sliceBounds (some (a:Int)) none none ds.length)=(((min a ds.length:Nat):Int),((min a ds.length+(ds.length - min a ds.length):Nat):Int),1):=by
  rw[e,<-clipAt_nat ds.length a]
  exact sliceBounds_plain _ _ _
 rw[jGm ds h1 (Nat.le_of_eq e),List.take_of_length_le (by rw[List.length_drop];exact Nat.le_refl _)]
 by_cases h:a<=ds.length
 ·rw[Nat.min_eq_left h]
 ·rw[Nat.min_eq_right (Nat.le_of_not_le h),List.drop_of_length_le nL,List.drop_of_length_le (Nat.le_of_not_le h)]
theorem pick_to(ds:List D)(b:Nat):pick ds none (some (b:Int)) none=ds.take b:=by
 have h1:(sliceBounds none (some (b:Int)) none ds.length)=(((0:Nat):Int),((0+min b ds.length:Nat):Int),1):=by
  rw[Nat.zero_add,<-clipAt_nat ds.length b]
  exact sliceBounds_plain _ _ _
 rw[jGm ds h1 (by rw[Nat.zero_add];exact Nat.min_le_right _ _),List.drop_zero]
 exact List.take_eq_take_min.symm
theorem jJg(c:Str)(xs:List Str):inD (.str c) (.list (xs.map .str))=some (xs.contains c):=by
 have h1:(xs.map D.str).all (fun y=>D.like y (.str c)&&decide (D.dep y<=20))=true:=by
  rw[List.all_eq_true]
  intro y hy
  refine lE hy ?_;rintro x _ rfl
  rfl
 have h2:(xs.map D.str).any (fun y=>D.beq y (.str c))=xs.contains c:=by
  induction xs with
  |nil=>rfl
  |cons x xs ih=>
   rw[List.map_cons,List.any_cons,List.contains_cons,ih (by
    rw[List.map_cons,List.all_cons,Bool.and_eq_true] at h1
    exact h1.2)]
   congr 1
   refine(?_:(x==c)=(c==x))
   exact BEq.comm
 refine(?_:(if (xs.map D.str).all (fun y=>D.like y (.str c)&&decide (D.dep y<=20))=true then some ((xs.map D.str).any (fun y=>D.beq y (.str c))) else none)=_)
 rw[if_pos h1,h2]
theorem jH5{x:Str}{a:Addr}{xs:List Str}{p1 p2 p3 p4:Pos}{l:Loc}(h1:(x==("__debug__":Str)||x==("__classdict__":Str))=false)(hk:sc.names.lookup x=some .local)(hl:l x=some (.lref a (xs.map .str)))(hlen:xs.length<=lim):
  (ev fns glob (n+2)).E k sc l (.Subscript (.Name x p1) (.Slice (some (.Constant (.int 1) 0 p2)) none none p3) p4)=some (.list (xs.tail.map .str)):=by
 refine(?_:(((ev fns glob (n+1)).E k sc l (.Name x p1)).bind fun d=>(zG (ev fns glob (n+1)) k sc l (some (.Constant (.int 1) 0 p2))).bind fun lo=>(zG (ev fns glob (n+1)) k sc l none).bind fun hi=>(zG (ev fns glob (n+1)) k sc l none).bind fun st=>match d.flat with
   | .list ds=>if st≠some 0/\ds.length<=lim then some (D.list (pick ds lo hi st)) else none
   | .str x=>if st=none/\x.length<=lim then some (D.str (Txt.slice x lo hi)) else none
   |_=>none)=_)
 rw[uN h1 (.inl hk),hl]
 refine(?_:(if (none:Option Int)≠some 0/\(xs.map D.str).length<=lim then some (D.list (pick (xs.map D.str) (some 1) none none)) else none)=_)
 rw[if_pos ⟨by simp,by simpa using hlen⟩]
 have:=pick_from (xs.map D.str) 1
 rw[show ((1:Nat):Int)=1 from rfl] at this
 rw[this]
 cases xs <;> rfl
end
section
variable{fns:List (Str×Fn)}{glob:xO}{r:Ev}{k:Bool}{sc jS:Scope}{l l1 l':jQ}{s:Stmt}{ss:List Stmt}{f:Fl}{n:Nat}
theorem jW:qV r k sc l []=some (.next,l):=rfl
theorem jF(h:r.S k sc l s=some (.next,l1)):qV r k sc l (s::ss)=qV r k sc l1 ss:=by
 refine(?_:(r.S k sc l s).bind _=_)
 rw[h];rfl
theorem kh{d:D}(h:r.S k sc l s=some (.ret d,l1)):qV r k sc l (s::ss)=some (.ret d,l1):=by
 refine(?_:(r.S k sc l s).bind _=_)
 rw[h];rfl
theorem yO(h:r.S k sc l s=some (.brk,l1)):qV r k sc l (s::ss)=some (.brk,l1):=by
 refine(?_:(r.S k sc l s).bind _=_)
 rw[h];rfl
theorem jGz{c:Str}{d:D}(h:r.S k sc l s=some (.exc c d,l1)):qV r k sc l (s::ss)=some (.exc c d,l1):=by
 refine(?_:(r.S k sc l s).bind _=_)
 rw[h];rfl
theorem qD{d:D}(h:r.S k sc l s=some (.next,l1))(h2:(qV r k sc l1 ss).bind qB=some d):(qV r k sc l (s::ss)).bind qB=some d:=by rw[jF h];exact h2
theorem kH{d:D}(h:r.S k sc l s=some (.ret d,l1)):(qV r k sc l (s::ss)).bind qB=some d:=by rw[kh h];rfl
theorem jT{x:Str}{p q:Pos}{e:Expr}{d:D}(hE:(ev fns glob n).E k sc (jV l) e=some d)(h1:uj sc (.Name x p)=true)(h2:gL.contains x=false):
  (ev fns glob (n+1)).S k sc l (.Assign [.Name x p] e q)=some (.next,jA l x (.val d)):=by
 refine(vD (ev fns glob n) k n sc l x p q e).trans ?_
 rw[h1,h2,hE]
 rfl
theorem zP{x:Str}{p q:Pos}{e:Expr}{ds:List D}(hE:(ev fns glob n).E k sc (jV l) e=some (.list ds))(h1:uj sc (.Name x p)=true)(h2:gL.contains x=true)(h3:zj e=true):
  (ev fns glob (n+1)).S k sc l (.Assign [.Name x p] e q)=some (.next,jA l x (.own ds)):=by
 refine(vD (ev fns glob n) k n sc l x p q e).trans ?_
 rw[h1,h2,hE,h3]
 rfl
theorem xu{t:Expr}{a b:List Stmt}{p:Pos}{c:Bool}(h:Bt (ev fns glob n) k sc (qx l) 4 t=some c):(ev fns glob (n+1)).S k sc l (.If t a b p)=qV (ev fns glob n) k sc l (if c then a else b):=by
 refine(?_:(Bt (ev fns glob n) k sc (qx l) 4 t).bind (fun c=>if c=true then qV (ev fns glob n) k sc l a else qV (ev fns glob n) k sc l b)=_)
 rw[h]
 cases c <;> rfl
theorem wV{e:Expr}{p:Pos}{d:D}(h:(ev fns glob n).E k sc (qx l) e=some d):(ev fns glob (n+1)).S k sc l (.Return (some e) p)=some (.ret d,l):=by
 refine(?_:((ev fns glob n).E k sc (qx l) e).map (fun d=>(Fl.ret d,l))=_)
 rw[h];rfl
theorem yT{x:Str}{p q1 q2 q3:Pos}{a:Expr}{ds:List D}{d:D}(hl:l x=some (.own ds))(hE:(ev fns glob n).E k sc (jV l) a=some d)(h1:(q1.endLine==q2.line)=true)(h2:PySem.W.isStarred a=false)(h3:(x==("__debug__":Str))=false)(h4:(x==("__classdict__":Str))=false)(hlen:ds.length<=lim):
  (ev fns glob (n+1)).S k sc l (.Expr (.Call (.Attribute (.Name x p) "append" q1) [a] [] q2) q3)=some (.next,jA l x (.own (ds++[d]))):=by
 refine(?_:dT (ev fns glob n) k sc l x "append" q1 a q2=_)
 unfold dT
 rw[h1,h2,h3,h4,hl,hE]
 refine(?_:(if ds.length<=lim then some (Fl.next,jA l x (.own (ds++[d]))) else none)=_)
 rw[if_pos hlen]
theorem jJ4{x:Str}{p q1 q2 q3:Pos}{a:Expr}{ds es:List D}(hl:l x=some (.own ds))(hE:(ev fns glob n).E k sc (jV l) a=some (.list es))(h1:(q1.endLine==q2.line)=true)(h2:PySem.W.isStarred a=false)(h3:(x==("__debug__":Str))=false)(h4:(x==("__classdict__":Str))=false)(hlen:ds.length+es.length<=lim):
  (ev fns glob (n+1)).S k sc l (.Expr (.Call (.Attribute (.Name x p) "extend" q1) [a] [] q2) q3)=some (.next,jA l x (.own (ds++es))):=by
 refine(?_:dT (ev fns glob n) k sc l x "extend" q1 a q2=_)
 unfold dT
 rw[h1,h2,h3,h4,hl,hE]
 refine(?_:(if ds.length+es.length<=lim then some (Fl.next,jA l x (.own (ds++es))) else none)=_)
 rw[if_pos hlen]
theorem pV{t i:Expr}{body orelse:List Stmt}{p:Pos}{its:List D}{res:Option (Fl×jQ)}(h1:(uj sc t&& !qZ i&&(vV t|| !xg i))=true)(hi:zV (ev fns glob n) k sc (jV l) i=some its)
  (h:(match forL (ev fns glob n) k sc t body l its with
   |some (.next,l')=>(qV (ev fns glob n) k sc l' orelse).bind rH
   |some (.brk,l')=>some (.next,l')
   |x=>x)=res):
  (ev fns glob (n+1)).S k sc l (.For t i body orelse p)=res:=by
 refine(?_:tu (ev fns glob n) k sc l t i body orelse=_)
 unfold tu
 rw[h1,hi,<-h]
 refine(?_:(forL (ev fns glob n) k sc t body l its).bind _=_)
 cases forL (ev fns glob n) k sc t body l its with
 |none=>rfl
 |some x=>
  obtain⟨f,l'⟩:=x
  cases f <;> rfl
theorem we{t i:Expr}{body:List Stmt}{p:Pos}{its:List D}(h1:(uj sc t&& !qZ i&&(vV t|| !xg i))=true)(hi:zV (ev fns glob n) k sc (jV l) i=some its)(h:forL (ev fns glob n) k sc t body l its=some (.next,l')):
  (ev fns glob (n+1)).S k sc l (.For t i body [] p)=some (.next,l'):=pV h1 hi (by rw[h];refine(?_:(qV (ev fns glob n) k sc l' []).bind rH=_);rw[jW];rfl)
theorem fu{t i:Expr}{body orelse:List Stmt}{p:Pos}{its:List D}(h1:(uj sc t&& !qZ i&&(vV t|| !xg i))=true)(hi:zV (ev fns glob n) k sc (jV l) i=some its)(h:forL (ev fns glob n) k sc t body l its=some (.brk,l')):
  (ev fns glob (n+1)).S k sc l (.For t i body orelse p)=some (.next,l'):=pV h1 hi (by rw[h])
theorem ft{t i:Expr}{body orelse:List Stmt}{p:Pos}{its:List D}{l2:jQ}(h1:(uj sc t&& !qZ i&&(vV t|| !xg i))=true)(hi:zV (ev fns glob n) k sc (jV l) i=some its)(h:forL (ev fns glob n) k sc t body l its=some (.next,l')){f:Fl}(hf:f= .next\/f= .brk)(he:qV (ev fns glob n) k sc l' orelse=some (f,l2)):
  (ev fns glob (n+1)).S k sc l (.For t i body orelse p)=some (f,l2):=pV h1 hi (by
   rw[h]
   refine(?_:(qV (ev fns glob n) k sc l' orelse).bind rH=_)
   rw[he]
   rcases hf with rfl|rfl <;> rfl)
theorem xj{t:Expr}{body:List Stmt}:forL r k sc t body l []=some (.next,l):=rfl
theorem jo{t:Expr}{body:List Stmt}{d:D}{ds:List D}{l2:jQ}(h1:wd l t d=some l1)(h2:qV r k sc l1 body=some (.next,l2)):forL r k sc t body l (d::ds)=forL r k sc t body l2 ds:=by
 refine(?_:(wd l t d).bind _=_)
 rw[h1]
 refine(?_:(qV r k sc l1 body).bind _=_)
 rw[h2];rfl
theorem uV{t:Expr}{body:List Stmt}{d:D}{ds:List D}{l2:jQ}(h1:wd l t d=some l1)(h2:qV r k sc l1 body=some (.brk,l2)):forL r k sc t body l (d::ds)=some (.brk,l2):=by
 refine(?_:(wd l t d).bind _=_)
 rw[h1]
 refine(?_:(qV r k sc l1 body).bind _=_)
 rw[h2];rfl
variable{lp:Loc}{a b:Expr}{x y d:D}{p:Pos}
theorem uE(hs:PySem.W.isStarred a=false)(ha:(ev fns glob n).E k sc lp a=some x):wG (ev fns glob n) k sc lp [a]=some [x]:=by
 refine(if_neg (by rw[hs];exact Bool.false_ne_true)).trans ?_
 refine(?_:(((ev fns glob n).E k sc lp a).bind fun d=>(wG (ev fns glob n) k sc lp []).bind fun ds=>some (d::ds))=_)
 rw[ha];rfl
theorem xk{es:List Expr}{ds:List D}(hs:PySem.W.isStarred a=false)(ha:(ev fns glob n).E k sc lp a=some x)(h:wG (ev fns glob n) k sc lp es=some ds):wG (ev fns glob n) k sc lp (a::es)=some (x::ds):=by
 refine(if_neg (by rw[hs];exact Bool.false_ne_true)).trans ?_
 refine(?_:(((ev fns glob n).E k sc lp a).bind fun d=>(wG (ev fns glob n) k sc lp es).bind fun ds=>some (d::ds))=_)
 rw[ha,h];rfl
theorem jDt{g:Str}{pg:Pos}{args:List Expr}{as:List D}(hk:sc.names.lookup g=some .globalImplicit)(h0:(g==("__debug__":Str))=false)(h1:g≠"reduce")(h2:g≠"isinstance")(h3:(fns.lookup g).isSome=false)(he:wG (ev fns glob n) k sc lp args=some as)(hb:q8 g as=some d):
  (ev fns glob (n+1)).E k sc lp (.Call (.Name g pg) args [] p)=some d:=by
 refine(yq fns glob (ev fns glob n) k sc lp g pg p args).trans ?_
 rw[if_neg (not_or.mpr ⟨not_not_intro hk,by rw[h0];exact Bool.false_ne_true⟩),if_neg h1,if_neg h2,if_neg (by rw[h3];exact Bool.false_ne_true),he]
 exact hb
theorem uR{g:Str}{pg:Pos}{args:List Expr}{as:List D}(hk:sc.names.lookup g=some .globalImplicit)(h0:(g==("__debug__":Str))=false)(h1:g≠"reduce")(h2:g≠"isinstance")(h3:(fns.lookup g).isSome=true)(he:wG (ev fns glob n) k sc lp args=some as)(hb:(zK fns (ev fns glob n) g as).bind qB=some d):
  (ev fns glob (n+1)).E k sc lp (.Call (.Name g pg) args [] p)=some d:=by
 refine(yq fns glob (ev fns glob n) k sc lp g pg p args).trans ?_
 rw[if_neg (not_or.mpr ⟨not_not_intro hk,by rw[h0];exact Bool.false_ne_true⟩),if_neg h1,if_neg h2,if_pos h3,he]
 exact hb
theorem jDs{o:Expr}{m:Str}{ap cp:Pos}{args:List Expr}{as:List D}(h1:zM o=false)(h2:(ap.endLine==cp.line)=true)(h3:m≠"replace")(h4:args.length<20)(h5:args.length≠0)(ho:(ev fns glob n).E k sc lp o=some x)(he:wG (ev fns glob n) k sc lp args=some as)(hb:kC x m as=some d):
  (ev fns glob (n+1)).E k sc lp (.Call (.Attribute o m ap) args [] cp)=some d:=by
 refine(?_:uZ fns (ev fns glob n) k sc lp o m ap args cp=_)
 unfold uZ
 rw[if_neg (not_or.mpr ⟨by rw[h1];exact Bool.false_ne_true,not_or.mpr ⟨by rw[h2];exact Bool.noConfusion,not_or.mpr ⟨Nat.not_le.mpr h4,h5⟩⟩⟩),if_neg h3,ho,he]
 exact hb
theorem yI{e:Expr}{i:Int}(h:(ev fns glob n).E k sc lp e=some (.int i)):zG (ev fns glob n) k sc lp (some e)=some (some i):=by
 refine(?_:((ev fns glob n).E k sc lp e).bind (fun d=>d.asInt?.map some)=_)
 rw[h];rfl
theorem gE{lo hi st:Option Expr}{ee i7 ck:Option Int}{p1:Pos}(h:(ev fns glob n).E k sc lp a=some x)(h1:zG (ev fns glob n) k sc lp lo=some ee)(h2:zG (ev fns glob n) k sc lp hi=some i7)(h3:zG (ev fns glob n) k sc lp st=some ck):(ev fns glob (n+1)).E k sc lp (.Subscript a (.Slice lo hi st p1) p)=fW x.flat ee i7 ck:=by
 refine(?_:fX (ev fns glob n) k sc lp a lo hi st=_)
 unfold fX
 rw[h,h1,h2,h3];rfl
theorem j7{op:Operator}(h1:(ev fns glob n).E k sc lp a=some x)(h2:(ev fns glob n).E k sc lp b=some y)(h3:wy op x y=some d):(ev fns glob (n+1)).E k sc lp (.BinOp a op b p)=some d:=by
 refine(?_:(((ev fns glob n).E k sc lp a).bind fun x=>((ev fns glob n).E k sc lp b).bind fun y=>wy op x y)=_)
 rw[h1,h2]
 exact h3
theorem jf{g:Str}{pg:Pos}(hk:sc.names.lookup g=some .globalImplicit)(h0:(g==("__debug__":Str))=false)(h1:g≠"reduce")(h2:g≠"isinstance")(h3:(fns.lookup g).isSome=false)(hs:PySem.W.isStarred a=false)(ha:(ev fns glob n).E k sc lp a=some x)(hb:q8 g [x]=some d):
  (ev fns glob (n+1)).E k sc lp (.Call (.Name g pg) [a] [] p)=some d:=jDt hk h0 h1 h2 h3 (uE hs ha) hb
theorem zx{t:Expr}{c:Bool}(h:Bt (ev fns glob n) k sc lp 4 t=some c)(hr:(ev fns glob n).E k sc lp (if c then a else b)=some d):(ev fns glob (n+1)).E k sc lp (.IfExp t a b p)=some d:=by
 refine(?_:((Bt (ev fns glob n) k sc lp 4 t).bind fun c=>if c=true then (ev fns glob n).E k sc lp a else (ev fns glob n).E k sc lp b)=_)
 rw[h]
 cases c <;> exact hr
theorem E_cmp{op:CmpOp}{c:Bool}(hs:qZ b=false)(h1:(ev fns glob n).E k sc lp a=some x)(h2:(ev fns glob n).E k sc lp b=some y)(h3:wb op x y=some c):(ev fns glob (n+1)).E k sc lp (.Compare a [op] [b] p)=some (.bool c):=by
 refine(?_:(if qZ b=true then none else ((ev fns glob n).E k sc lp a).bind fun x=>((ev fns glob n).E k sc lp b).bind fun y=>(wb op x y).map D.bool)=_)
 rw[hs,h1,h2]
 refine(?_:(wb op x y).map D.bool=_)
 rw[h3];rfl
theorem j5{m:Nat}{op:CmpOp}{c:Bool}(hs:qZ b=false)(h1:(ev fns glob n).E k sc lp a=some x)(h2:(ev fns glob n).E k sc lp b=some y)(h3:wb op x y=some c):Bt (ev fns glob n) k sc lp (m+1) (.Compare a [op] [b] p)=some c:=by
 refine(?_:(if qZ b=true then none else ((ev fns glob n).E k sc lp a).bind fun a=>((ev fns glob n).E k sc lp b).bind fun b=>wb op a b)=_)
 rw[hs,h1,h2];exact h3
theorem fw{m:Nat}{c:Bool}(h:Bt (ev fns glob n) k sc lp m a=some c):Bt (ev fns glob n) k sc lp (m+1) (.UnaryOp .Not a p)=some (!c):=by
 refine(?_:(Bt (ev fns glob n) k sc lp m a).map (!·)=_)
 rw[h];rfl
theorem gj{m:Nat}{c e:Bool}(h1:Bt (ev fns glob n) k sc lp m a=some c)(h2:Bt (ev fns glob n) k sc lp m b=some e):Bt (ev fns glob n) k sc lp (m+1) (.BoolOp .And [a,b] p)=some (c&&e):=by
 refine(?_:(Bt (ev fns glob n) k sc lp m a).bind (fun b'=>if b' then Bt (ev fns glob n) k sc lp m b else some false)=_)
 rw[h1,h2];cases c <;> rfl
theorem dm{m:Nat}{c e:Bool}(h1:Bt (ev fns glob n) k sc lp m a=some c)(h2:Bt (ev fns glob n) k sc lp m b=some e):Bt (ev fns glob n) k sc lp (m+1) (.BoolOp .Or [a,b] p)=some (c||e):=by
 refine(?_:(Bt (ev fns glob n) k sc lp m a).bind (fun b'=>if b' then some true else Bt (ev fns glob n) k sc lp m b)=_)
 rw[h1,h2];cases c <;> rfl
theorem ints_map(xs:List Int):ints? (xs.map .int)=some xs:=by
 induction xs with
 |nil=>rfl
 |cons x xs ih=>
  refine(?_:(ints? (xs.map .int)).map (x::·)=_)
  rw[ih];rfl
end
noncomputable def wo(K:Frag)(a:Addr):Obj:=(K.lookup a).getD default
noncomputable def az(o:Obj):FuncData:=match o.data with| .func fd=>fd|_=>default
noncomputable def fl?(d:Data):Option (Array Value):=by
 cases d with
 |fields vs=>exact some vs
 |_=>exact none
noncomputable def sq?(d:Data):Option (Array Value×Nat):=by
 cases d with
 |seq vs n=>exact some (vs,n)
 |_=>exact none
noncomputable def de?(d:Data):Option (Array DictEntry):=by
 cases d with
 |dict es _=>exact some es
 |_=>exact none
noncomputable def sv?(v:Value):Option Str:=by
 cases v with
 |str x _=>exact some x
 |_=>exact none
noncomputable def tv?(v:Value):Option String:=by
 cases v with
 |type x=>exact some x
 |_=>exact none
noncomputable def eV(v:Value)(k:Addr->Option D):Option D:=by
 cases v with
 |int i _=>exact some (.int i)
 |str x _=>exact some (.str x)
 |ref a=>exact k a
 |_=>exact none
theorem fl_is{d:Data}{vs:Array Value}(h:fl? d=some vs):d= .fields vs:=by
 induction d using cDa with
 |fields us=>exact congrArg _ (j6 h)
 |_=>exact zn h
theorem sq_is{d:Data}{q:Array Value×Nat}(h:sq? d=some q):d= .seq q.1 q.2:=by
 induction d using cDa with
 |seq us n=>rw[<-j6 h]
 |_=>exact zn h
theorem de_is{d:Data}{es:Array DictEntry}(h:de? d=some es):∃ep,d= .dict es ep:=by
 induction d using cDa with
 |dict us n=>exact⟨n,by rw[j6 h]⟩
 |_=>exact zn h
theorem sv_is{v:Value}{x:Str}(h:sv? v=some x):∃t,v= .str x t:=by
 induction v using cV with
 |str y t=>exact⟨t,by rw[j6 h]⟩
 |_=>exact zn h
theorem tv_is{v:Value}{x:String}(h:tv? v=some x):v= .type x:=by
 induction v using cV with
 |type y=>exact congrArg _ (j6 h)
 |_=>exact zn h
theorem rdV_is{v:Value}{k:Addr->Option D}{d:D}(h:eV v k=some d):(∃i t,v= .int i t/\d= .int i)\/(∃x t,v= .str x t/\d= .str x)\/∃a,v= .ref a/\k a=some d:=by
 induction v using cV with
 |int i t=>exact .inl ⟨i,t,rfl,(j6 h).symm⟩
 |str x t=>exact .inr (.inl ⟨x,t,rfl,(j6 h).symm⟩)
 |ref a=>exact .inr (.inr ⟨a,rfl,h⟩)
 |_=>exact zn h
noncomputable def ed(o:Obj):Option Str:=(fl? o.data).bind fun vs=>(vs[1]? :Option Value).bind sv?
structure FnAt(K:Frag)(x:Str)(f:Fn)(a c:Addr):Prop where
 mg:nsIn K mainGlobals x=some (some (.ref a))
 at1:K.lookup a=some (wo K a)
 dat:(wo K a).data= .func (docDef x f.params f.body f.scope (az (wo K a)).pyModule (.ref c) (az (wo K a)).doc)
 at2:K.lookup c=some (wo K c)
 nm:ed (wo K c)=some x
section
variable{K:Frag}{h:Heap}{mg mb:Str->Option Value}
theorem codeRec_of{c:Addr}{x:Str}(X:K.In h)(h1:K.lookup c=some (wo K c))(h2:ed (wo K c)=some x):h.CodeRec (.ref c) x:=by
 refine bE h2 fun vs e h3=> ?_
 refine bE h3 fun q e2 h4=> ?_
 obtain⟨t,rfl⟩:=sv_is h4
 exact ro c _ vs t rfl (X _ _ h1) (fl_is e) e2
theorem FnAt.is{x:Str}{f:Fn}{a c:Addr}(F:FnAt K x f a c)(X:K.In h)(G:h.Ns mainGlobals mg):mg x=some (.ref a)/\h.get? a=some (wo K a)/\h.CodeRec (.ref c) x:=
 ⟨mg_of X G F.mg,X _ _ F.at1,codeRec_of X F.at2 F.nm⟩
noncomputable def pI(f:Value->Option D):List Value->Option (List D)
 |[]=>some []
 |v::vs=>(f v).bind fun d=>(pI f vs).map (d::·)
noncomputable def tp?(o:Obj):Option (List Value):=(tv? o.cls).bind fun c=>(sq? o.data).bind fun q=>if c="tuple"/\o.dict.isNone=true/\o.slots.isEmpty=true/\q.2=0 then some q.1.toList else none
theorem tp_is{o:Obj}{vs:List Value}(h:tp? o=some vs):o=xt vs 0:=by
 refine bE h fun c h1 h2=> ?_
 refine bE h2 fun q h3 h4=> ?_
 revert h4;refine yU (fun hc h4=> ?_) (fun _ h4=>zn h4)
 refine ug hc fun c1 c2 c3 c4=> ?_
 have h5:=tv_is h1
 have h6:=sq_is h3
 have h7:=Option.isNone_iff_eq_none.mp c2
 have h8:=Array.isEmpty_iff.mp c3
 obtain⟨a,b,c',d⟩:=o
 rw[show a=_ from h5,show b=_ from h7,show c'=_ from h6,show d=_ from h8,c1,c4,<-j6 h4]
 rfl
noncomputable def eW(K:Frag):Nat->Value->Option D
 |0,_=>none
 |n+1,v=>eV v fun a=>(K.lookup a).bind fun o=>(tp? o).bind fun vs=>(pI (eW K n) vs).map .tup
theorem jAs{prog:Program}{w:World}{f:Value->Option D}(ih:∀v d,f v=some d->R prog w h.get? v d):∀(vs:List Value) (ds:List D),pI f vs=some ds->Rs prog w h.get? vs ds
 |[],ds,e=>by
  replace e:=j6 e;subst e;exact .nil
 |v::vs,ds,e=>by
  refine bE (show (f v).bind _=some ds from e) fun d h1 h2=> ?_
  refine mE h2 ?_;rintro bT h3 rfl
  exact .cons (ih _ _ h1) (jAs ih vs bT h3)
theorem jHh{prog:Program}{w:World}(X:K.In h)(n:Nat):∀(v:Value) (d:D),eW K n v=some d->R prog w h.get? v d:=by
 induction n with
 |zero=>exact fun v d e=>zn e
 |succ n ih=>
  intro v d e
  rcases rdV_is (show eV v _=some d from e) with h1|h1|h1
  ·obtain⟨i,t,rfl,rfl⟩:=h1
   exact .int _ _
  ·obtain⟨i,t,rfl,rfl⟩:=h1
   exact .str _ _
  ·obtain⟨a,rfl,h2⟩:=h1
   refine bE h2 fun o g1 g2=> ?_
   refine bE g2 fun vs g3 g4=> ?_
   refine mE g4 ?_;rintro ds g5 rfl
   exact .tup (n:=0) (tp_is g3▸X _ _ g1) (jAs ih _ _ g5)
noncomputable def jIp(es:Array DictEntry):Bool:=es.toList.all fun e=>(sv? e.key).isSome
noncomputable def eD(o:Obj):Array DictEntry:=(de? o.data).getD #[]
noncomputable def k8(o:Obj):Bool:=(de? o.data).any jIp
theorem ns_of{a:Addr}(X:K.In h)(h1:K.lookup a=some (wo K a))(h2:k8 (wo K a)=true):h.Ns a (nsFind (eD (wo K a))):=by
 unfold k8 at h2
 unfold eD
 generalize hd:de? (wo K a).data=z at h2
 induction z using cO with
 |none=>exact zf h2
 |some es=>
  obtain⟨ep,e⟩:=de_is hd
  refine vL _ es ep (X _ _ h1) e (fun en hen=> ?_) (fun name=>rfl)
  obtain⟨q,h3⟩:=Option.isSome_iff_exists.mp (List.all_eq_true.mp (show (es.toList.all fun e=>(sv? e.key).isSome)=true from h2) en (Array.mem_toList_iff.mpr hen))
  obtain⟨t,h4⟩:=sv_is h3
  exact⟨q,t,h4⟩
structure ExcAt(K:Frag)(x:Str)(cl kX N NE:Addr):Prop where
 mg:nsIn K mainGlobals x=some (some (.ref cl))
 at1:∃(nm q:Str) (bs:List Value) (hdct:Bool) (sn:List Str) (sub:List Value) (ab:Bool) (col:Option Bool) (dd:Option Addr) (k0 k1 k2 k3 k5:Option Value),K.lookup cl=some (excClassObj nm q cl N bs (.ref kX::uI) hdct sn sub ab col dd k0 k1 k2 k3 k5 "Exception.__new__")
 atN:K.lookup N=some (wo K N)
 dN:k8 (wo K N)=true
 nN:∀x∈vA,nsFind (eD (wo K N)) x=none
 atE:∃(c0:Value) (sW:Option Addr) (cd:ClassData) (sl:Array (Option Value)),K.lookup kX=some { cls:=c0,dict:=sW,data:= .cls cd,slots:=sl }/\cd.ns=NE
 atM:K.lookup NE=some (wo K NE)
 dM:k8 (wo K NE)=true
 nM:∀x∈vA,nsFind (eD (wo K NE)) x=none
theorem ExcAt.exc{x:Str}{cl kX N NE:Addr}(E:ExcAt K x cl kX N NE)(X:K.In h):nH h cl kX:=by
 obtain⟨nm,q,bs,hdct,sn,sub,ab,col,dd,k0,k1,k2,k3,k5,e1⟩:=E.at1
 refine ue E.atE fun c0 sW cd sl e2 e3=> ?_
 refine⟨nm,q,N,bs,hdct,sn,sub,ab,col,dd,k0,k1,k2,k3,k5,"Exception.__new__","Exception","Exception.__init__",[.type "Exception",.type "BaseException",.type "object"],c0,sW,cd,sl,_,_,F.excBase_Exception,by decide+kernel,X _ _ e1,ns_of X E.atN E.dN,E.nN,X _ _ e2,?_,E.nM⟩
 rw[e3]
 exact ns_of X E.atM E.dM
structure RedAt(K:Frag)(f:Fn)(a c dt ai:Addr):Prop where
 ok:dj f
 mg:nsIn K mainGlobals "reduce"=some (some (.ref a))
 at1:K.lookup a=some (wo K a)
 dat:(wo K a).data= .func { docDef "reduce" f.params f.body f.scope (az (wo K a)).pyModule (.ref c) (az (wo K a)).doc with defaults:= .ref dt }
 at2:K.lookup c=some (wo K c)
 nm:ed (wo K c)=some "reduce"
 at3:K.lookup dt=some (wo K dt)
 d3:(wo K dt).data= .seq #[.ref ai] 0
 mgi:nsIn K mainGlobals "_initial_missing"=some (some (.ref ai))
 at4:K.lookup ai=some (wo K ai)
 d4:(wo K ai).cls= .type "object"
structure AllK(K:Frag)(fns:List (Str×Fn))(tab:D)(c P:Addr):Prop where
 noT:noTabs K=true
 fn:∀q∈fns,∃a c,FnAt K q.1 q.2 a c
 okf:∀q∈fns,uc q.2=true
 tab:∃v,nsIn K mainGlobals "_filemode_table"=some (some v)/\eW K 5 v=some tab
 bi:∀x∈ya,nsIn K mainGlobals x=some none
 red:∃f a c dt ai,RedAt K f a c dt ai
 hd:codeHdIn K c P=true
 exc:∃xC xE kX NR NP NE,ExcAt K "error_reply" xC kX NR NE/\ExcAt K "error_proto" xE kX NP NE/\xC≠xE/\xC≠kX/\xE≠kX
noncomputable abbrev cxOf(prog:Program)(w:World)(h:Heap)(P:Addr)(mg mb:Str->Option Value)(fns:List (Str×Fn))(tab:D)(c:Addr)(lq:Str):Cx:=
 ⟨prog,w,h,P,mg,mb,fns,[("_filemode_table",tab)],c,lq⟩
theorem zz{α:Type}:∀{l:List (Str×α)} {x:Str} {f:α},l.lookup x=some f->(x,f)∈l
 |[],_,_,e=>by cases e
 |(b,y)::r,x,f,e=>by
  rw[List.lookup_cons] at e
  generalize hb:(x==b)=x0;induction x0 using cT with
  |true=>rw[hb] at e;replace e:=j6 e;subst e;rw[eq_of_beq hb];exact .head _
  |false=>rw[hb] at e;exact .tail _ (zz e)
set_option maxHeartbeats 4000000 in
theorem base_of{prog p:Program}{w:World}{h1:Heap}{c P:Addr}{loose:List Str}{bg:ExcName->Option Value}{fns:List (Str×Fn)}{tab:D}{lq:Str}(hT:TabsAt [(c,P)] h1)(X1:K.In h1)(T:Top p loose bg mg mb h1)(imp:importsNone p=true)(A:AllK K fns tab c P):
  Base (cxOf prog w (ghostOf h1 [(c,P)]) P mg mb fns tab c lq):=by
 have X:K.In (ghostOf h1 [(c,P)]):=ghost_K hT X1 A.noT
 have T':=ghost_top hT T
 have G:=T'.g
 refine
  { g:=G
    b:=T'.b
    nolimit:=T'.nolimit
    hP:=hideAll_none _ (by simp)
    fn:=fun x f e=> ?_
    okf:=fun x f e=>A.okf _ (zz e)
    gl:=fun x d e=> ?_
    bi:=fun x hx=>⟨mg_none_of X G (A.bi x hx),T'.builtins x ?_⟩
    sys:= ?_
    red:= ?_
    hd:=codeHd_of_K X A.hd
    bat:= ?_
    exc:= ?_ }
 ·refine pA (A.fn _ (zz e)) fun a c' F=> ?_
  refine yD (F.is X G) fun e1 e2 e3=> ?_
  exact⟨a,_,_,_,_,e1,e2,F.dat,e3⟩
 ·have e':=zz e
  replace e':=j4.mp e'
  obtain⟨rfl,rfl⟩:=e'
  refine jH A.tab fun v e1 e2=> ?_
  exact⟨v,mg_of X G e1,jHh X 5 v _ e2⟩
 ·rintro rfl
  exact absurd hx kD
 ·have:=(T.seer imp)
  obtain⟨_,⟨m,hm,_⟩,_⟩:=this
  refine uB (ghost_ns hT hm) fun o es ep ho _=> ?_
  refine(?_:((ghostOf h1 [(c,P)]).get? sysModules).isSome=true)
  rw[ho];rfl
 ·obtain⟨f,a,c',dt,ai,r⟩:=A.red
  exact⟨f,a,_,_,_,_,dt,ai,_,_,_,r.ok,mg_of X G r.mg,X _ _ r.at1,r.dat,codeRec_of X r.at2 r.nm,X _ _ r.at3,r.d3,mg_of X G r.mgi,X _ _ r.at4,r.d4⟩
 ·obtain⟨bm,ob,b1,b2,b3,b4,b5,b6⟩:=T'.bmain
  refine⟨bm,ob,b1,b2,fun e=> ?_,b3,b4,b5,b6⟩
  refine jj G fun o es ep ho hd _=> ?_;clear G
  rw[<-e,b3] at ho
  replace ho:=j6 ho;subst ho
  rw[b6] at hd;cases hd
 ·obtain⟨xC,xE,kX,NR,NP,NE,r1,r2,r3⟩:=A.exc
  exact⟨xC,xE,kX,mg_of X G r1.mg,mg_of X G r2.mg,r1.exc X,r2.exc X,r3⟩
structure ExcKAt(K:Frag)(xC xE:Addr):Prop where
 mR:nsIn K mainGlobals "error_reply"=some (some (.ref xC))
 mP:nsIn K mainGlobals "error_proto"=some (some (.ref xE))
 ne:xC≠xE
 ex:∀c∈[xC,xE],∀c'∈[xC,xE],exmOne K (.ref c) (.ref c')=some (decide (c=c'))
 base:∀c∈[xC,xE],subIn K (.ref c) (.type "BaseException")=some true
 str:∀c∈[xC,xE],findIn K (.ref c) "__str__"=some (some (.builtin "BaseException.__str__"))
theorem ExcKAt.is{C:Cx}{xC xE:Addr}(E:ExcKAt K xC xE)(X:K.In C.g0)(G:C.g0.Ns mainGlobals C.mg):wK C xC xE where
 mR:=mg_of X G E.mR
 mP:=mg_of X G E.mP
 ne:=E.ne
 ty:=fun M c hc=>⟨exm_ty X (E.ex c hc c hc),(exm_cls X (E.ex c hc c hc)).1⟩
 sub:=fun M c hc c' hc'=>(exm_cls X (E.ex c hc c' hc')).2
 base:=fun M c hc=>looks_subIn X (E.base c hc)
 str:=fun M c hc=>looks_findIn X (E.str c hc)
noncomputable def zS(l:List (Int×Str)):D:= .tup (l.map fun q=> .tup [.int q.1,.str q.2])
noncomputable def tabD:D:= .tup [zS [(40960,"l"),(49152,"s"),(32768,"-"),(24576,"b"),(16384,"d"),(8192,"c"),(4096,"p")],zS [(256,"r")],zS [(128,"w")],zS [(2112,"s"),(2048,"S"),(64,"x")],zS [(32,"r")],zS [(16,"w")],zS [(1032,"s"),(1024,"S"),(8,"x")],zS [(4,"r")],zS [(2,"w")],zS [(513,"t"),(512,"T"),(1,"x")]]
noncomputable def jK:List (Str×Fn):=[("_c3_merge",fnAt Challenge.pw_oy0159_01 "_c3_merge"),("parse229",fnAt Challenge.pw_oy0159_01 "parse229"),("parse257",fnAt Challenge.pw_oy0159_01 "parse257"),("S_IMODE",fnAt Challenge.pw_oy0159_01 "S_IMODE"),("S_IFMT",fnAt Challenge.pw_oy0159_01 "S_IFMT"),("filemode",fnAt Challenge.pw_oy0159_01 "filemode"),("_law_said",fnAt Challenge.pw_oy0159_01 "_law_said"),("_law_talk",fnAt Challenge.pw_oy0159_01 "_law_talk"),("_law_heard",fnAt Challenge.pw_oy0159_01 "_law_heard"),("_law_listing",fnAt Challenge.pw_oy0159_01 "_law_listing"),("_law_joined",fnAt Challenge.pw_oy0159_01 "_law_joined"),("_law_lines",fnAt Challenge.pw_oy0159_01 "_law_lines"),("_law_laid",fnAt Challenge.pw_oy0159_01 "_law_laid"),("_law_greatest",fnAt Challenge.pw_oy0159_01 "_law_greatest")]
noncomputable def red1:Fn:=fnAt Challenge.pw_oy0159_01 "reduce"
noncomputable def posR1:List Pos:=[⟨4,4,4,6⟩,⟨4,9,4,13⟩,⟨4,14,4,22⟩,⟨4,9,4,23⟩,⟨4,4,4,23⟩,⟨5,7,5,14⟩,⟨5,18,5,34⟩,⟨5,7,5,34⟩,⟨7,12,7,17⟩,⟨7,20,7,24⟩,⟨7,25,7,27⟩,⟨7,20,7,28⟩,⟨7,12,7,28⟩,⟨6,8,9,89⟩,⟨11,8,11,13⟩,⟨11,16,11,23⟩,⟨11,8,11,23⟩,⟨5,4,11,23⟩,⟨12,8,12,15⟩,⟨12,19,12,21⟩,⟨13,8,13,13⟩,⟨13,16,13,24⟩,⟨13,25,13,30⟩,⟨13,32,13,39⟩,⟨13,16,13,40⟩,⟨13,8,13,40⟩,⟨12,4,13,40⟩,⟨14,11,14,16⟩,⟨14,4,14,16⟩]
noncomputable def jGs:List ExceptHandler:=tryH (qR (aC (qR red1.body 1)) 0)
theorem redf1:dj red1 where
 ok:=kR
 names:=kR
 params:=⟨_,_,_,_,rfl⟩
 loc:=by decide+kernel
 glb:=by decide+kernel
 shape:=⟨fun k=>posR1.getD k ⟨0,0,0,0⟩,jGs.headD (.ExceptHandler none none [] ⟨0,0,0,0⟩),jGs.tail,kR⟩
theorem okf1:∀q∈jK,uc q.2=true:=by decide+kernel
variable{fns:List (Str×Fn)}{glob:xO}{k:Bool}{sc jS:Scope}{l:Loc}{it u7 elt ke ve:Expr}{ifs oL:List Expr}{x y z:Str}{tp nK pos:Pos}{n:Nat}
theorem flatIf{α β:Type}(t:α->Bool)(e:α->β)(xs:List α):(xs.flatMap fun x=>if t x then [e x] else [])=(xs.filter t).map e:=by
 induction xs with
 |nil=>rfl
 |cons x xs ih=>
  rw[List.flatMap_cons,ih]
  cases ht:t x <;> simp[List.filter_cons,ht]
theorem jBq{d:D}{lp:Loc}(h:(lp x).isSome=false):wU lp (.Name x tp) d=some (jA lp x d):=by
 refine(?_:(if (lp x).isSome=true then none else some (jA lp x d))=_)
 rw[h];rfl
theorem jIg{a b:D}{kd:Nat}{p1 p2:Pos}{lp:Loc}(h:(lp x).isSome=false)(h':(lp y).isSome=false):wU lp (.Tuple [.Name x p1,.Name y p2] kd tp) (.tup [a,b])=some (jA (jA lp x a) y b):=by
 refine(?_:(if (lp x).isSome=true\/(lp y).isSome=true then none else some (jA (jA lp x a) y b))=_)
 rw[h,h'];rfl
theorem d9{r:Ev}{α:Type}(f:α->D)(t:α->Bool)(e:α->D)(emit:Loc->Option D)(xs:List α)(a:Int)(hx:(l x).isSome=false)
  (ht:∀q∈xs,xK r k sc (jA l x (f q)) ifs=some (t q)) (he:∀q∈xs,t q=true->emit (jA l x (f q))=some (e q)):
  compLoop r k sc l ⟨.Name x tp,it,ifs,a⟩ (fun l'=>(emit l').map fun x=>[x]) (xs.map f)=some ((xs.filter t).map e):=by
 rw[yc f t (fun q=>[e q]) xs fun q hq=>⟨_,jBq hx,ht q hq,fun hh=>by rw[he q hq hh];rfl⟩,flatIf]
theorem vS{α:Type}(f:α->D)(t:α->Bool)(e:α->D)(xs:List α){a:Int}(hit:((ev fns glob n).E k sc l it).bind ju=some (xs.map f))(ok:jm sc jS [⟨.Name x tp,it,ifs,a⟩]=true)(hx:(jL jS l x).isSome=false)
  (ht:∀q∈xs,xK (ev fns glob n) k (jR sc jS) (jA (jL jS l) x (f q)) ifs=some (t q)) (he:∀q∈xs,t q=true->(ev fns glob n).E k (jR sc jS) (jA (jL jS l) x (f q)) elt=some (e q)) (hl:xs.length<=lim):
  (ev fns glob (n+1)).E k sc l (.ListComp elt [⟨.Name x tp,it,ifs,a⟩] jS pos)=some (.list ((xs.filter t).map e)):=by
 have h1:=d9 (it:=it) (tp:=tp) (k:=k) f t e (fun l'=>(ev fns glob n).E k (jR sc jS) l' elt) xs a hx ht he
 refine(?_:(((ev fns glob n).E k sc l it).bind ju).bind (fun its=>if jm sc jS [⟨.Name x tp,it,ifs,a⟩]=true then (compLoop (ev fns glob n) k (jR sc jS) (jL jS l) ⟨.Name x tp,it,ifs,a⟩ (fun l'=>((ev fns glob n).E k (jR sc jS) l' elt).map fun x=>[x]) its).bind (fun ds=>if ds.length<=lim then some (D.list ds) else none) else none)=_)
 rw[hit]
 refine(?_:(if jm sc jS [⟨.Name x tp,it,ifs,a⟩]=true then (compLoop (ev fns glob n) k (jR sc jS) (jL jS l) ⟨.Name x tp,it,ifs,a⟩ (fun l'=>((ev fns glob n).E k (jR sc jS) l' elt).map fun x=>[x]) (xs.map f)).bind (fun ds=>if ds.length<=lim then some (D.list ds) else none) else none)=_)
 rw[if_pos ok,h1]
 refine(?_:(if ((xs.filter t).map e).length<=lim then some (D.list ((xs.filter t).map e)) else none)=_)
 rw[if_pos (by rw[List.length_map];exact xJ (List.length_filter_le _ _) hl)]
theorem vT{α:Type}(f:α->D)(e:α->D)(xs:List α){a:Int}(hit:((ev fns glob n).E k sc l it).bind ju=some (xs.map f))(ok:jm sc jS [⟨.Name x tp,it,[],a⟩]=true)(hx:(jL jS l x).isSome=false)
  (he:∀q∈xs,(ev fns glob n).E k (jR sc jS) (jA (jL jS l) x (f q)) elt=some (e q)) (hl:xs.length<=lim):
  (ev fns glob (n+1)).E k sc l (.ListComp elt [⟨.Name x tp,it,[],a⟩] jS pos)=some (.list (xs.map e)):=by
 rw[vS f (fun _=>true) e xs hit ok hx (fun q hq=>rfl) (fun q hq _=>he q hq) hl]
 rw[List.filter_eq_self.mpr fun _ _=>rfl]
theorem pS{α β:Type}(f:α->D)(t1:α->Bool)(ys:α->List β)(g:β->D)(t:α->β->Bool)(e:α->β->D)(xs:List α){a b:Int}(hit:((ev fns glob n).E k sc l it).bind ju=some (xs.map f))(ok:jm sc jS [⟨.Name x tp,it,ifs,a⟩,⟨.Name y nK,u7,oL,b⟩]=true)
  (hx:(jL jS l x).isSome=false) (hy:∀q∈xs,(jA (jL jS l) x (f q) y).isSome=false) (lP:∀q∈xs,xK (ev fns glob n) k (jR sc jS) (jA (jL jS l) x (f q)) ifs=some (t1 q))
  (mr:∀q∈xs,t1 q=true->((ev fns glob n).E k (jR sc jS) (jA (jL jS l) x (f q)) u7).bind ju=some ((ys q).map g))
  (ht:∀q∈xs,t1 q=true->∀p∈ys q,xK (ev fns glob n) k (jR sc jS) (jA (jA (jL jS l) x (f q)) y (g p)) oL=some (t q p)) (he:∀q∈xs,t1 q=true->∀p∈ys q,t q p=true->(ev fns glob n).E k (jR sc jS) (jA (jA (jL jS l) x (f q)) y (g p)) elt=some (e q p))
  (hl:(xs.flatMap fun q=>if t1 q then ((ys q).filter (t q)).map (e q) else []).length<=lim):
  (ev fns glob (n+1)).E k sc l (.ListComp elt [⟨.Name x tp,it,ifs,a⟩,⟨.Name y nK,u7,oL,b⟩] jS pos)=some (.list (xs.flatMap fun q=>if t1 q then ((ys q).filter (t q)).map (e q) else [])):=by
 have h1:compLoop (ev fns glob n) k (jR sc jS) (jL jS l) ⟨.Name x tp,it,ifs,a⟩ (fun l'=>(((ev fns glob n).E k (jR sc jS) l' u7).bind ju).bind fun yy=>compLoop (ev fns glob n) k (jR sc jS) l' ⟨.Name y nK,u7,oL,b⟩ (fun l'=>((ev fns glob n).E k (jR sc jS) l' elt).map fun x=>[x]) yy) (xs.map f)=some (xs.flatMap fun q=>if t1 q then ((ys q).filter (t q)).map (e q) else []):=by
  refine yc f t1 (fun q=>((ys q).filter (t q)).map (e q)) xs fun q hq=>⟨_,jBq hx,lP q hq,fun hh=> ?_⟩
  rw[mr q hq hh]
  exact d9 g (t q) (e q) _ (ys q) b (hy q hq) (ht q hq hh) (he q hq hh)
 refine(?_:(((ev fns glob n).E k sc l it).bind ju).bind (fun its=>if jm sc jS [⟨.Name x tp,it,ifs,a⟩,⟨.Name y nK,u7,oL,b⟩]=true then (compLoop (ev fns glob n) k (jR sc jS) (jL jS l) ⟨.Name x tp,it,ifs,a⟩ (fun l'=>(((ev fns glob n).E k (jR sc jS) l' u7).bind ju).bind fun yy=>compLoop (ev fns glob n) k (jR sc jS) l' ⟨.Name y nK,u7,oL,b⟩ (fun l'=>((ev fns glob n).E k (jR sc jS) l' elt).map fun x=>[x]) yy) its).bind (fun ds=>if ds.length<=lim then some (D.list ds) else none) else none)=_)
 rw[hit]
 refine(?_:(if jm sc jS [⟨.Name x tp,it,ifs,a⟩,⟨.Name y nK,u7,oL,b⟩]=true then (compLoop (ev fns glob n) k (jR sc jS) (jL jS l) ⟨.Name x tp,it,ifs,a⟩ (fun l'=>(((ev fns glob n).E k (jR sc jS) l' u7).bind ju).bind fun yy=>compLoop (ev fns glob n) k (jR sc jS) l' ⟨.Name y nK,u7,oL,b⟩ (fun l'=>((ev fns glob n).E k (jR sc jS) l' elt).map fun x=>[x]) yy) (xs.map f)).bind (fun ds=>if ds.length<=lim then some (D.list ds) else none) else none)=_)
 rw[if_pos ok,h1]
 exact if_pos hl
theorem fk{α:Type}(f:α->D×D)(t:α->Bool)(e:α->D)(xs:List α){a:Int}{kd:Nat}{p1 p2:Pos}(hit:((ev fns glob n).E k sc l it).bind ju=some (xs.map fun q=> .tup [(f q).1,(f q).2]))(ok:jm sc jS [⟨.Tuple [.Name x p1,.Name y p2] kd tp,it,ifs,a⟩]=true)(hx:(jL jS l x).isSome=false)(hy:(jL jS l y).isSome=false)
  (ht:∀q∈xs,xK (ev fns glob n) k (jR sc jS) (jA (jA (jL jS l) x (f q).1) y (f q).2) ifs=some (t q)) (he:∀q∈xs,t q=true->(ev fns glob n).E k (jR sc jS) (jA (jA (jL jS l) x (f q).1) y (f q).2) elt=some (e q)) (hl:xs.length<=lim):
  (ev fns glob (n+1)).E k sc l (.ListComp elt [⟨.Tuple [.Name x p1,.Name y p2] kd tp,it,ifs,a⟩] jS pos)=some (.list ((xs.filter t).map e)):=by
 have h1:compLoop (ev fns glob n) k (jR sc jS) (jL jS l) ⟨.Tuple [.Name x p1,.Name y p2] kd tp,it,ifs,a⟩ (fun l'=>((ev fns glob n).E k (jR sc jS) l' elt).map fun x=>[x]) (xs.map fun q=> .tup [(f q).1,(f q).2])=some ((xs.filter t).map e):=by
  rw[yc (fun q=> .tup [(f q).1,(f q).2]) t (fun q=>[e q]) xs fun q hq=>⟨_,jIg hx hy,ht q hq,fun hh=>by rw[he q hq hh];rfl⟩,flatIf]
 refine(?_:(((ev fns glob n).E k sc l it).bind ju).bind (fun its=>if jm sc jS [⟨.Tuple [.Name x p1,.Name y p2] kd tp,it,ifs,a⟩]=true then (compLoop (ev fns glob n) k (jR sc jS) (jL jS l) ⟨.Tuple [.Name x p1,.Name y p2] kd tp,it,ifs,a⟩ (fun l'=>((ev fns glob n).E k (jR sc jS) l' elt).map fun x=>[x]) its).bind (fun ds=>if ds.length<=lim then some (D.list ds) else none) else none)=_)
 rw[hit]
 refine(?_:(if jm sc jS [⟨.Tuple [.Name x p1,.Name y p2] kd tp,it,ifs,a⟩]=true then (compLoop (ev fns glob n) k (jR sc jS) (jL jS l) ⟨.Tuple [.Name x p1,.Name y p2] kd tp,it,ifs,a⟩ (fun l'=>((ev fns glob n).E k (jR sc jS) l' elt).map fun x=>[x]) (xs.map fun q=> .tup [(f q).1,(f q).2])).bind (fun ds=>if ds.length<=lim then some (D.list ds) else none) else none)=_)
 rw[if_pos ok,h1]
 refine(?_:(if ((xs.filter t).map e).length<=lim then some (D.list ((xs.filter t).map e)) else none)=_)
 rw[if_pos (by rw[List.length_map];exact xJ (List.length_filter_le _ _) hl)]
theorem rngIts{i:Nat}(h:i<=1000):ju (.rng 0 (i:Int))=some ((List.range i).map fun k:Nat=> .int (k:Int)):=by
 refine(?_:(if (small 0&&small (i:Int)&&decide ((i:Int) - 0<=1000))=true then some ((List.range ((i:Int) - 0).toNat).map fun(k:Nat)=>D.int (0+(k:Int))) else none)=_)
 have h1:small (i:Int)=true:=by
  unfold small
  refine decide_eq_true ?_
  have:(1000:Nat)<2 ^ 60:=by decide
  lia
 rw[h1,if_pos (by
  have:decide ((i:Int) - 0<=1000)=true:=decide_eq_true (by lia)
  rw[this];decide)]
 rw[show ((i:Int) - 0).toNat=i by lia]
 simp
theorem qI{ds:List D}{i:Nat}{d:D}(h:ds[i]? =some d)(hl:ds.length<=lim):wN (.list ds) (.int (i:Int))=some d:=by
 have hi:i<ds.length:=(List.getElem?_eq_some_iff.mp h).1
 refine(?_:(if ds.length<=lim then (idx? (i:Int) ds.length).bind (ds[·]?) else none)=_)
 rw[if_pos hl]
 unfold idx?
 rw[if_pos (by lia),if_pos (by lia)]
 exact h
structure jZ{α:Type}[DecidableEq α](f:α->D)(m:Nat):Prop where
 like:∀a b,D.like (f a) (f b)=true
 beq:∀a b,D.beq (f a) (f b)=decide (a=b)
 dep:∀a,D.dep (f a)<=m
end
section
variable{α:Type}[DecidableEq α]{f:α->D}{m:Nat}
theorem bA{c:Prop}[Decidable c]{x:Int}:Option.map D.int (if c then some x else none)=if c then some (D.int x) else none:=by split <;> rfl
theorem jZ.str:jZ D.str 0 where
 like:=fun a b=>rfl
 beq:=fun a b=>by
  refine(?_:(a==b)=decide (a=b))
  rw[Bool.eq_iff_iff];simp
 dep:=fun a=>Nat.le_refl _
theorem jZ.int:jZ D.int 0 where
 like:=fun a b=>rfl
 beq:=fun a b=>by
  refine(?_:(a==b)=decide (a=b))
  rw[Bool.eq_iff_iff];simp
 dep:=fun a=>Nat.le_refl _
theorem jZ.likes(h:jZ f m):∀xs ys:List α,D.likes (xs.map f) (ys.map f)=true
 |[],[]=>rfl
 |[],_::_=>rfl
 |_::_,[]=>rfl
 |x::xs,y::ys=>by
  exact Bool.and_eq_true_iff.mpr ⟨h.like x y,h.likes xs ys⟩
theorem jZ.beqs(h:jZ f m):∀xs ys:List α,D.beqs (xs.map f) (ys.map f)=decide (xs=ys)
 |[],[]=>rfl
 |[],_::_=>rfl
 |_::_,[]=>rfl
 |x::xs,y::ys=>by
  refine(?_:(D.beq (f x) (f y)&&D.beqs (xs.map f) (ys.map f))=_)
  rw[h.beq,h.beqs xs ys,Bool.eq_iff_iff];simp
theorem jZ.deps(h:jZ f m):∀xs:List α,D.deps (xs.map f)<=m
 |[]=>Nat.zero_le _
 |x::xs=>by
  exact Nat.max_le.mpr ⟨h.dep x,h.deps xs⟩
theorem jZ.list(h:jZ f m):jZ (fun xs:List α=>D.list (xs.map f)) (m+1) where
 like:=fun a b=>h.likes a b
 beq:=fun a b=>h.beqs a b
 dep:=fun a=>by simp only[D.dep];exact Nat.succ_le_succ (h.deps a)
theorem jZ.eq(h:jZ f m)(hm:m<=20)(a b:α):wb .Eq (f a) (f b)=some (decide (a=b)):=by
 refine(?_:(if (D.like (f a) (f b)&&decide (D.dep (f a)<=20))=true then some (D.beq (f a) (f b)) else none)=_)
 rw[h.like,h.beq,if_pos]
 rw[decide_eq_true (xJ (h.dep a) hm)];rfl
theorem jZ.ne(h:jZ f m)(hm:m<=20)(a b:α):wb .NotEq (f a) (f b)=some (!decide (a=b)):=by
 refine(?_:(if (D.like (f a) (f b)&&decide (D.dep (f a)<=20))=true then some (!D.beq (f a) (f b)) else uK (f a) (f b))=_)
 rw[h.like,h.beq,if_pos]
 rw[decide_eq_true (xJ (h.dep a) hm)];rfl
theorem jZ.mem(h:jZ f m)(hm:m<=20)(a:α)(xs:List α)[Decidable (a∈xs)]:inD (f a) (.list (xs.map f))=some (decide (a∈xs)):=by
 refine(?_:(if (xs.map f).all (fun y=>D.like y (f a)&&decide (D.dep y<=20))=true then some ((xs.map f).any fun y=>D.beq y (f a)) else none)=_)
 rw[if_pos]
 ·congr 1
  rw[Bool.eq_iff_iff,List.any_eq_true,decide_eq_true_eq]
  constructor
  ·intro y0
   refine jH y0 fun y hy e=> ?_;clear y0
   refine lE hy ?_;rintro x hx rfl
   rw[h.beq,decide_eq_true_eq] at e
   exact e▸hx
  ·exact fun hx=>⟨f a,List.mem_map_of_mem hx,by rw[h.beq];simp⟩
 ·rw[List.all_eq_true]
  intro y hy
  refine lE hy ?_;rintro x hx rfl
  rw[h.like,decide_eq_true (xJ (h.dep x) hm)];rfl
theorem jZ.isIn(h:jZ f m)(hm:m<=20)(a:α)(xs:List α)[Decidable (a∈xs)]:wb .In (f a) (.list (xs.map f))=some (decide (a∈xs)):=h.mem hm a xs
theorem jZ.notIn(h:jZ f m)(hm:m<=20)(a:α)(xs:List α)[Decidable (a∈xs)]:wb .NotIn (f a) (.list (xs.map f))=some (!decide (a∈xs)):=by
 refine(?_:(inD (f a) (.list (xs.map f))).map (!·)=_)
 rw[h.mem hm];rfl
end
noncomputable def yC(q:Str×Str):D:= .list [.str q.1,.str q.2]
noncomputable def jC(l:List Str):D:= .list (l.map .str)
noncomputable def jb(ls:List (List Str)):D:= .list (ls.map jC)
noncomputable def j9(q:qF):D:= .list (q.map yC)
theorem jZ.strs:jZ jC 1:=jZ.str.list
theorem jZ.row:jZ yC 1 where
 like:=fun a b=>rfl
 beq:=fun a b=>by
  obtain⟨a1,a2⟩:=a
  obtain⟨b1,b2⟩:=b
  refine(?_:(a1==b1&&(a2==b2&&true))=_)
  rw[Bool.and_true]
  rw[Bool.eq_iff_iff];simp
 dep:=fun a=>Nat.le_refl _
noncomputable def zF(q:List qF):D:= .list (q.map j9)
theorem jZ.rows:jZ j9 2:=jZ.row.list
theorem jI{α:Type}{l:Str->Option α}{x:Str}{a:α}:jA l x a x=some a:=by unfold jA;rw[if_pos rfl]
theorem qf{α:Type}{l:Str->Option α}{x y:Str}{a:α}(h:y≠x):jA l x a y=l y:=by unfold jA;rw[if_neg h]
theorem sN{α:Type}{l:Str->Option α}{x y:Str}{a:α}(h:y≠x:=by decide):jA l x a y=l y:=qf h
theorem jE{l:jQ}{x:Str}{d:D}(h:l x=some (.val d)):jV l x=some d:=by unfold jV;rw[h]
theorem jP{l:jQ}{x:Str}{d:D}(h:l x=some (.val d)):qx l x=some d:=by unfold qx;rw[h]
theorem vc{l:jQ}{x:Str}{ds:List D}(h:l x=some (.own ds)):qx l x=some (.list ds):=by unfold qx;rw[h]
theorem xl{xs:List Str}(h:xs.length<64):q8 "sorted" [jC xs]=some (jC (xv xs)):=by
 refine(?_:vp (xs.map D.str)=_)
 unfold vp
 rw[if_pos (by simpa using h)]
 rw[strs_map]
 rfl
theorem len_list{ds:List D}(h:ds.length<=lim):q8 "len" [.list ds]=some (.int ds.length):=by
 refine(?_:(if ds.length<=lim then some (D.int ds.length) else none)=_)
 rw[if_pos h]
theorem add_lists{a b:List D}(h:a.length+b.length<=lim):wy .Add (.list a) (.list b)=some (.list (a++b)):=by
 refine(?_:(if a.length+b.length<=lim then some (D.list (a++b)) else none)=_)
 rw[if_pos h]
theorem sum_ints(xs:List Int):q8 "sum" [.list (xs.map .int)]=some (.int xs.sum):=by
 refine(?_:(ints? (xs.map .int)).map (fun ns=>D.int ns.sum)=_)
 rw[ints_map];rfl
theorem jIk{ds:List D}(h:ds.length<=lim):kn (.list ds)=some (!ds.isEmpty):=by
 refine(?_:(if ds.length<=lim then some (!ds.isEmpty) else none)=_)
 rw[if_pos h]
section
variable{fns:List (Str×Fn)}{glob:xO}{k:Bool}{sc:Scope}{l:Loc}{a b:Expr}{p p1 p2:Pos}{n:Nat}{x d:D}{ds:List D}
theorem je(hs:isSlice b=false){y:D}(h1:(ev fns glob n).E k sc l a=some x)(h2:(ev fns glob n).E k sc l b=some y)(h3:wN x y=some d):(ev fns glob (n+1)).E k sc l (.Subscript a b p)=some d:=by
 have key:(((ev fns glob n).E k sc l a).bind fun x=>((ev fns glob n).E k sc l b).bind fun y=>wN x y)=some d:=by rw[h1,h2];exact h3
 clear h1 h2 h3
 induction b using cE with
 |Slice lo hi st q=>exact Bool.noConfusion hs
 |_=>exact key
theorem E_from{e:Expr}{i:Nat}(h1:(ev fns glob n).E k sc l a=some (.list ds))(h2:(ev fns glob n).E k sc l e=some (.int (i:Int)))(h3:ds.length<=lim):(ev fns glob (n+1)).E k sc l (.Subscript a (.Slice (some e) none none p1) p)=some (.list (ds.drop i)):=by
 refine(gE h1 (yI h2) rfl rfl).trans ?_
 refine(?_:(if (none:Option Int)≠some 0/\ds.length<=lim then some (D.list (pick ds (some (i:Int)) none none)) else none)=_)
 rw[if_pos ⟨by simp,h3⟩,pick_from]
theorem E_to{e:Expr}{i:Nat}(h1:(ev fns glob n).E k sc l a=some (.list ds))(h2:(ev fns glob n).E k sc l e=some (.int (i:Int)))(h3:ds.length<=lim):(ev fns glob (n+1)).E k sc l (.Subscript a (.Slice none (some e) none p1) p)=some (.list (ds.take i)):=by
 refine(gE h1 rfl (yI h2) rfl).trans ?_
 refine(?_:(if (none:Option Int)≠some 0/\ds.length<=lim then some (D.list (pick ds none (some (i:Int)) none)) else none)=_)
 rw[if_pos ⟨by simp,h3⟩,pick_to]
theorem dB(hs:PySem.W.isStarred a=false)(h:(ev fns glob n).E k sc l a=some x):(ev fns glob (n+1)).E k sc l (.List [a] p)=some (.list [x]):=by
 refine(?_:(wG (ev fns glob n) k sc l [a]).bind (fun ds=>if ds.length<=lim then some (D.list ds) else none)=_)
 rw[uE hs h];rfl
theorem jG1{y:D}(hs:PySem.W.isStarred a=false)(z6:PySem.W.isStarred b=false)(h:(ev fns glob n).E k sc l a=some x)(h':(ev fns glob n).E k sc l b=some y):(ev fns glob (n+1)).E k sc l (.List [a,b] p)=some (.list [x,y]):=by
 refine(?_:(wG (ev fns glob n) k sc l [a,b]).bind (fun ds=>if ds.length<=lim then some (D.list ds) else none)=_)
 rw[xk hs h (uE z6 h')];rfl
theorem dJ{e:Expr}(h:(ev fns glob n).E k sc l e=some (.list ds)):((ev fns glob n).E k sc l e).bind ju=some ds:=by rw[h];rfl
theorem getD_mem{α:Type}{xs:List α}{i:Nat}{d:α}(h:i<xs.length):xs.getD i d∈xs:=by
 rw[List.getD_eq_getElem?_getD,List.getElem?_eq_getElem h];exact List.getElem_mem h
theorem getD_map{α:Type}{xs:List α}{f:α->D}{i:Nat}{d:α}(h:i<xs.length):(xs.map f)[i]? =some (f (xs.getD i d)):=by
 rw[List.getElem?_map,List.getD_eq_getElem?_getD,List.getElem?_eq_getElem h];rfl
noncomputable def isV(k:NameKind):Bool:=by
 cases k with
 |«local»=>exact true
 |cell=>exact true
 |free=>exact true
 |_=>exact false
noncomputable def isVar(o:Option NameKind):Bool:=o.any isV
theorem jJe{k:Option NameKind}(h:isVar k=true):k=some .local\/k=some .cell\/k=some .free:=by
 cases k with
 |none=>exact zf h
 |some k=>cases k <;> first|exact zf h|exact .inl rfl|exact .inr (.inl rfl)|exact .inr (.inr rfl)
theorem jD{x:Str}(h1:(x==("__debug__":Str)||x==("__classdict__":Str))=false)(hk:isVar (sc.names.lookup x)=true)(h:l x=some d):(ev fns glob (n+1)).E k sc l (.Name x p)=some d:=(uN h1 (jJe hk)).trans h
theorem zL{t:Expr}{c:Bool}(h:Bt (ev fns glob n) k sc l 4 t=some c):xK (ev fns glob n) k sc l [t]=some c:=h
theorem jJ7{i:Nat}{pg:Pos}(hk:sc.names.lookup ("range":Str)=some .globalImplicit)(h3:(fns.lookup ("range":Str)).isSome=false)(hs:PySem.W.isStarred a=false)(ha:(ev fns glob n).E k sc l a=some (.int (i:Int)))(h:i<=1000):
  ((ev fns glob (n+1)).E k sc l (.Call (.Name "range" pg) [a] [] p)).bind ju=some ((List.range i).map fun k:Nat=> .int (k:Int)):=by
 rw[jf (d:= .rng 0 (i:Int)) hk kD kD kD h3 hs ha kR]
 exact rngIts h
theorem jD5:∀(xs:List Nat) (a:Nat),kS (a:Int) (xs.map fun k=>((k:Nat):Int))=((xs.foldl max a:Nat):Int)
 |[],a=>rfl
 |x::xs,a=>by
  refine(?_:kS (if (x:Int) > (a:Int) then (x:Int) else (a:Int)) (xs.map fun k=>((k:Nat):Int))=_)
  rw[List.foldl_cons,<-jD5 xs (max a x)]
  rw[arM]
noncomputable def fJ(jG:List (List Str))(lower:List Str):Nat:=(((List.range jG.length).filter fun k=>decide (((jG.getD k []).filter fun o=>lower.contains o)≠[])).map (·+1)).foldl max 0
noncomputable def yg(jG:List (List Str))(name:Str)(rows:qF):List (List Str):=
 let at':=fJ jG ((rows.filter fun q=>q.2==name).map (·.1))
 jG.take at'++[(if at'=jG.length then [] else jG.getD at' [])++[name]]++jG.drop (at'+1)
theorem jDg{xs:List Nat}{b:Nat}:∀{a:Nat},a<=b->(∀x∈xs,x<=b)->xs.foldl max a<=b:=by
 induction xs with
 |nil=>intro a h _;exact h
 |cons x xs ih=>
  intro a h h2
  rw[List.foldl_cons]
  exact ih (Nat.max_le.mpr ⟨h,h2 x jk⟩) fun y hy=>h2 y (qO _ hy)
theorem oT(jG:List (List Str))(lower:List Str):fJ jG lower<=jG.length:=by
 refine jDg (Nat.zero_le _) fun x hx=> ?_
 refine lE hx ?_;rintro k hk rfl
 have:=yQ.mp (qG.mp hk).1
 lia
noncomputable def pK:Fn:=fnAt Challenge.pw_oy0159_01 "_law_laid"
theorem jJa(jG:List (List Str))(name:Str)(rows:qF)(h1:jG.length<=100)(h2:∀l∈jG,l.length<=100)(h3:rows.length<=1000):(zK jK (ev jK glob (n+20)) "_law_laid" [jb jG,.str name,j9 rows]).bind qB=some (jb (yg jG name rows)):=by
 have jw:lim=1000000:=rfl
 refine(?_:(qV (ev jK glob (n+20)) false pK.scope (jA (jA (jA (fun _=>none) "rows" (.val (j9 rows))) "name" (.val (.str name))) "layers" (.val (jb jG))) pK.body).bind qB=_)
 refine(?_:(qV (ev jK glob (n+20)) false pK.scope _ [_,_,_]).bind qB=_)
 refine qD (jT (vS yC (fun q=>q.2==name) (fun q=> .str q.1) rows kR kR kR (fun q hq=>by kernel_rfl) (fun q hq _=>by kernel_rfl) j8) kR kR) ?_
 generalize mq:(rows.filter fun q=>q.2==name)=lowr
 rw[show lowr.map (fun q=>D.str q.1)=(lowr.map (·.1)).map .str by rw[List.map_map];rfl]
 generalize hlow':lowr.map (·.1)=lower
 refine qD (jT (jf (x:= .list ((0::((List.range jG.length).filter fun k=>decide (((jG.getD k []).filter fun o=>lower.contains o)≠[])).map fun k:Nat=>(k:Int)+1).map .int)) (d:= .int ((fJ jG lower:Nat):Int)) kR kR kD kD kR kR ?_ ?_) kR kR) ?_
 ·refine j7 (x:= .list [.int 0]) kR (vS (fun k:Nat=> .int (k:Int)) (fun k=>decide (((jG.getD k []).filter fun o=>lower.contains o)≠[])) (fun k=> .int ((k:Int)+1)) (List.range jG.length) ?_ kR kR ?_ ?_ ?_) ?_
  ·exact jJ7 kR kR kR (jf (x:=jb jG) kR kR kD kD kR kR kR ((len_list (by simp;exact j8)).trans (by simp))) j8
  ·intro q hq
   have hq:=yQ.mp hq
   have hg:jG.getD q []∈jG:=getD_mem hq
   have aU:=h2 _ hg
   refine zL ((j5 kR (vS .str (fun o=>decide (o∈lower)) .str (jG.getD q []) ?_ kR kR ?_ (fun o ho _=>by kernel_rfl) j8) (y:= .list (([]:List Str).map .str)) kR (jZ.strs.ne kD _ _)).trans ?_)
   ·exact dJ (je kR (x:=jb jG) (y:= .int (q:Int)) kR kR (qI (d:=jC (jG.getD q [])) (getD_map hq) (by simp;exact j8)))
   ·intro o ho
    exact zL (j5 kR (x:= .str o) (y:= .list (lower.map .str)) kR kR (jZ.str.isIn kD _ _))
   ·congr 1
    rw[Bool.eq_iff_iff];simp
  ·intro q hq _
   kernel_rfl
  ·simp;exact j8
  ·have:=List.length_filter_le (fun k=>decide (((jG.getD k []).filter fun o=>lower.contains o)≠[])) (List.range jG.length)
   rw[List.length_range] at this
   rw[add_lists (by rw[List.length_map];simp only[List.length_singleton];lia)]
   simp[List.map_map,Function.comp_def]
 ·have e:(0::((List.range jG.length).filter fun k=>decide (((jG.getD k []).filter fun o=>lower.contains o)≠[])).map fun k:Nat=>(k:Int)+1)=(((0:Nat):Int)::(((List.range jG.length).filter fun k=>decide (((jG.getD k []).filter fun o=>lower.contains o)≠[])).map (·+1)).map fun k:Nat=>(k:Int)):=by
   simp[List.map_map,Function.comp_def]
  rw[e]
  refine(?_:(ints? _).bind _=_)
  rw[ints_map]
  exact congrArg (fun q=>some (D.int q)) (jD5 _ 0)
 ·have sO:=oT jG lower
  have hlaid:yg jG name rows=jG.take (fJ jG lower)++[(if fJ jG lower=jG.length then [] else jG.getD (fJ jG lower) [])++[name]]++jG.drop (fJ jG lower+1):=by
   unfold yg;rw[mq,hlow']
  rw[hlaid]
  generalize fJ jG lower=at' at sO
  have ht:(jG.take at').length<=100:=by rw[List.length_take];lia
  have hd:(jG.drop (at'+1)).length<=100:=by rw[List.length_drop];lia
  have hm:((if at'=jG.length then [] else jG.getD at' []):List Str).length<=100:=by
   split
   ·simp
   ·exact h2 _ (getD_mem (by lia))
  refine kH (wV ?_)
  refine j7 (x:=jb (jG.take at'++[(if at'=jG.length then [] else jG.getD at' [])++[name]])) (y:=jb (jG.drop (at'+1))) ?_ ?_ ?_
  ·refine j7 (x:=jb (jG.take at')) (y:=jb [(if at'=jG.length then [] else jG.getD at' [])++[name]]) ?_ ?_ ?_
   ·refine(E_to (i:=at') (ds:=jG.map jC) kR kR (by simp;exact j8)).trans ?_
    unfold jb;rw[List.map_take]
   ·refine dB kR (x:=jC ((if at'=jG.length then [] else jG.getD at' [])++[name])) ?_
    refine j7 (x:=jC (if at'=jG.length then [] else jG.getD at' [])) (y:=jC [name]) ?_ kR ?_
    ·refine zx (c:=decide (at'=jG.length)) ?_ ?_
     ·refine(j5 kR (x:= .int (at':Int)) (y:= .int (jG.length:Int)) kR (jf (x:=jb jG) kR kR kD kD kR kR kR ((len_list (by simp;exact j8)).trans (by simp))) (jZ.int.eq kD _ _)).trans ?_
      congr 1
      rw[Bool.eq_iff_iff,decide_eq_true_eq,decide_eq_true_eq]
      lia
     ·by_cases e:at'=jG.length
      ·rw[if_pos e,decide_eq_true e]
       kernel_rfl
      ·rw[if_neg e,decide_eq_false e]
       exact je kR (x:=jb jG) (y:= .int (at':Int)) kR kR (qI (getD_map (by lia)) (by simp;exact j8))
    ·exact(add_lists (by rw[List.length_map];refine(?_:_+1<=_);lia)).trans (by simp[jC])
   ·exact(add_lists (by simp;lia)).trans (by simp[jb])
  ·refine(E_from (i:=at'+1) (ds:=jG.map jC) kR kR (by simp;exact j8)).trans ?_
   unfold jb;rw[List.map_drop]
  ·exact(add_lists (by simp;lia)).trans (by simp[jb])
theorem jAm:∀(xs:List Nat) (a:Nat),a<=xs.foldl max a/\(∀x∈xs,x<=xs.foldl max a)/\(xs.foldl max a=a\/xs.foldl max a∈xs)
 |[],a=>⟨Nat.le_refl _,by simp,.inl rfl⟩
 |x::xs,a=>by
  rw[List.foldl_cons]
  refine yD (jAm xs (max a x)) fun h1 h2 h3=> ?_
  refine⟨by lia,fun y hy=> ?_,?_⟩
  ·rcases j0.mp hy with rfl|hy
   ·lia
   ·exact h2 y hy
  ·rcases h3 with h3|h3
   ·by_cases e:a<=x
    ·right;rw[h3,Nat.max_eq_right e];exact jk
    ·left;rw[h3];lia
   ·right;exact qO _ h3
noncomputable def lv(L:List (List Str))(k:Nat):List Str:=L.getD k []
theorem gZ{L:List (List Str)}{k:Nat}(h:L.length<=k):lv L k=[]:=by
 unfold lv;rw[List.getD_eq_getElem?_getD,List.getElem?_eq_none h];rfl
theorem at_spec(L:List (List Str))(lower:List Str):(∀k x,x∈lv L k->x∈lower->k+1<=fJ L lower)/\(fJ L lower=0\/∃k x,fJ L lower=k+1/\x∈lv L k/\x∈lower):=by
 unfold fJ
 refine yD (jAm (((List.range L.length).filter fun k=>decide (((L.getD k []).filter fun o=>lower.contains o)≠[])).map (·+1)) 0) fun h1 h2 h3=> ?_
 constructor
 ·intro k x hx hl
  have hk:k<L.length:=Nat.lt_of_not_le fun h=>by rw[gZ h] at hx;cases hx
  refine h2 _ (vK.mpr ⟨k,qG.mpr ⟨yQ.mpr hk,decide_eq_true fun e=> ?_⟩,rfl⟩)
  have:x∈(L.getD k []).filter fun o=>lower.contains o:=qG.mpr ⟨hx,by simpa using hl⟩
  rw[e] at this;cases this
 ·rcases h3 with h3|h3
  ·exact .inl h3
  ·right
   refine lE h3 fun k hk e=> ?_
   obtain⟨_,g⟩:=qG.mp hk
   have g:=of_decide_eq_true g
   obtain⟨x,hx⟩:=List.exists_mem_of_ne_nil _ g
   obtain⟨hx1,mM⟩:=qG.mp hx
   exact⟨k,x,e.symm,hx1,by simpa using mM⟩
theorem laid_lv(L:List (List Str))(name:Str)(rows:qF):∃at',at'=fJ L ((rows.filter fun q=>q.2==name).map (·.1))/\(yg L name rows).length=max L.length (at'+1)/\∀k,lv (yg L name rows) k=if k=at' then lv L at'++[name] else lv L k:=by
 refine⟨_,rfl,?_⟩
 unfold yg
 dsimp only
 have sO:=oT L ((rows.filter fun q=>q.2==name).map (·.1))
 generalize fJ L ((rows.filter fun q=>q.2==name).map (·.1))=at' at sO
 have hmid:(if at'=L.length then [] else L.getD at' [])=lv L at':=by
  split
  ·rename_i e;rw[gZ (by lia)]
  ·rfl
 rw[hmid]
 constructor
 ·simp only[List.length_append,List.length_take,List.length_drop,List.length_cons,List.length_nil]
  rw[Nat.min_eq_left sO]
  exact(Nat.add_comm _ _).trans (Nat.sub_add_eq_max _ _)
 ·intro k
  unfold lv
  simp only[List.getD_eq_getElem?_getD]
  by_cases e1:k<at'
  ·rw[if_neg (zo19 zA),List.append_assoc,List.getElem?_append_left (by rw[List.length_take];lia),List.getElem?_take,if_pos e1]
  ·by_cases e2:k=at'
   ·subst e2
    rw[if_pos rfl,List.append_assoc,List.getElem?_append_right (by rw[List.length_take];lia),List.length_take]
    have:k - min k L.length=0:=by lia
    rw[this];rfl
   ·rw[if_neg e2,List.getElem?_append_right (by simp only[List.length_append,List.length_take,List.length_cons,List.length_nil];lia),List.getElem?_drop]
    have:at'+1+(k - (L.take at'++[(L[at']?).getD []++[name]]).length)=k:=by
     simp only[List.length_append,List.length_take,List.length_cons,List.length_nil];lia
    rw[this]
structure Lay(R:Str->Str->Prop)(p:List Str)(L:List (List Str)):Prop where
 mem:∀z,z∈p↔∃k,z∈lv L k
 ne:∀k,k<L.length->lv L k≠[]
 up:∀x y i j,R x y->x∈lv L i->y∈lv L j->i<j
 low:∀k y,y∈lv L (k+1)->∃x∈lv L k,R x y
theorem Lay.step{R:Str->Str->Prop}{rows:qF}(hR:∀x y,R x y↔(x,y)∈rows){p:List Str}{L:List (List Str)}(h:Lay R p L){name:Str}(hn:name∉p)(bw:¬R name name)(h1:∀x,R x name->x∈p)(h2:∀y∈p,¬R name y):Lay R (p++[name]) (yg L name rows):=by
 refine xQ (laid_lv L name rows) fun at' he hlen hk=> ?_
 obtain⟨a1,a2⟩:=at_spec L ((rows.filter fun q=>q.2==name).map (·.1))
 rw[<-he] at a1 a2
 have mq:∀x,x∈(rows.filter fun q=>q.2==name).map (·.1)↔R x name:=fun x=>by
  rw[hR]
  constructor
  ·intro hx
   refine lE hx ?_;rintro q hq rfl
   obtain⟨g1,g2⟩:=qG.mp hq
   have:q.2=name:=by simpa using g2
   rw[<-this];exact g1
  ·intro hx
   exact vK.mpr ⟨(x,name),qG.mpr ⟨hx,by simp⟩,rfl⟩
 have iO:∀k,name∉lv L k:=fun k hm=>hn ((h.mem name).mpr ⟨k,hm⟩)
 have qu:∀k z,z∈lv (yg L name rows) k↔z∈lv L k\/(k=at'/\z=name):=fun k z=>by
  rw[hk]
  split
  ·rename_i e;subst e;simp
  ·rename_i e;simp[e]
 refine⟨fun z=> ?_,fun k du=> ?_,fun x y i j hr hx hy=> ?_,fun k y hy=> ?_⟩
 ·rw[List.mem_append,j4,h.mem]
  constructor
  ·rintro (⟨k,hz⟩|rfl)
   ·exact⟨k,(qu k z).mpr (.inl hz)⟩
   ·exact⟨at',(qu _ _).mpr (.inr ⟨rfl,rfl⟩)⟩
  ·rintro ⟨k,hz⟩
   rcases (qu k z).mp hz with hz|⟨_,rfl⟩
   ·exact .inl ⟨k,hz⟩
   ·exact .inr rfl
 ·rw[hk]
  split
  ·simp
  ·rename_i e
   refine h.ne k ?_
   have hle:=oT L ((rows.filter fun q=>q.2==name).map (·.1))
   rw[<-he] at hle
   lia
 ·rcases (qu i x).mp hx with hx'|⟨e1,e2⟩
  ·rcases (qu j y).mp hy with hy'|⟨e1,e2⟩
   ·exact h.up x y i j hr hx' hy'
   ·rw[e2] at hr
    have:=a1 i x hx' ((mq x).mpr hr)
    lia
  ·rw[e2] at hr
   rcases (qu j y).mp hy with hy'|⟨e3,e4⟩
   ·exact absurd hr (h2 y ((h.mem y).mpr ⟨j,hy'⟩))
   ·rw[e4] at hr;exact absurd hr bw
 ·rcases (qu (k+1) y).mp hy with hy|⟨e,rfl⟩
  ·refine jH (h.low k y hy) fun x hx hr=> ?_
   exact⟨x,(qu k x).mpr (.inl hx),hr⟩
  ·rcases a2 with a2|⟨k',x,a2,hx,hl⟩
   ·lia
   ·have:k'=k:=by lia
    subst this
    exact⟨x,(qu _ _).mpr (.inl hx),(mq x).mp hl⟩
theorem lay_all{R:Str->Str->Prop}{rows:qF}(hR:∀x y,R x y↔(x,y)∈rows)(O:Ord R)(rest:List Str):∀(p:List Str) (L:List (List Str)),Lay R p L->(p++rest).Nodup->(∀x y,R x y->x∈p++rest/\y∈p++rest)->(p++rest).Pairwise (fun a b=>¬R b a)->Lay R (p++rest) (rest.foldl (fun made name=>yg made name rows) L):=by
 induction rest with
 |nil=>
  intro p L h _ _ _
  rw[List.append_nil];exact h
 |cons name rest ih=>
  intro p L h hn hm hp
  rw[List.foldl_cons]
  have e:p++name::rest=(p++[name])++rest:=by simp
  rw[e]
  rw[e] at hn hm hp
  refine yD (List.nodup_append.mp hn) fun n1 n2 n3=> ?_
  refine yD (List.nodup_append.mp n1) fun m1 m2 m3=> ?_
  refine yD (List.pairwise_append.mp hp) fun p1 p2 p3=> ?_
  refine yD (List.pairwise_append.mp p1) fun q1 q2 q3=> ?_
  refine ih (p++[name]) _ (h.step hR (fun hh=>m3 name hh name x9 rfl) (O.irr name) (fun x hx=> ?_) fun y hy=>q3 y hy name x9) hn hm hp
  have hx1:=(hm x name hx).1
  rcases jq.mp hx1 with hx1|hx1
  ·rcases jq.mp hx1 with hx1|hx1
   ·exact hx1
   ·replace hx1:=j4.mp hx1
    rw[hx1] at hx;exact absurd hx (O.irr name)
  ·exact absurd hx (p3 name (by simp) x hx1)
theorem jHv(R:Str->Str->Prop):Lay R [] [] where
 mem:=fun z=>⟨fun h=>(by cases h),fun⟨k,h⟩=>by rw[gZ (by simp)] at h;cases h⟩
 ne:=fun k h=>by simp at h
 up:=fun x y i j _ h=>by rw[gZ (by simp)] at h;cases h
 low:=fun k y h=>by rw[gZ (by simp)] at h;cases h
theorem Lay.chain{R:Str->Str->Prop}{p:List Str}{L:List (List Str)}(O:Ord R)(h:Lay R p L):∀(k:Nat) (y:Str),y∈lv L k->∃c:List Str,c.length=k+1/\c.Pairwise R/\(∀z∈c,z∈p)/\(∀z∈c,z=y\/R z y)
 |0,y,hy=>⟨[y],rfl,List.pairwise_singleton _ _,fun z hz=>by replace hz:=j4.mp hz;subst hz;exact(h.mem z).mpr ⟨0,hy⟩,fun z hz=>by replace hz:=j4.mp hz;exact .inl hz⟩
 |k+1,y,hy=>by
  refine jH (h.low k y hy) fun x hx hr=> ?_
  obtain⟨c,c1,c2,c3,c4⟩:=h.chain O k x hx
  have hb:∀z∈c,R z y:=fun z hz=>by
   rcases c4 z hz with rfl|hz
   ·exact hr
   ·exact O.tr _ _ _ hz hr
  refine⟨c++[y],by simp[c1],List.pairwise_append.mpr ⟨c2,List.pairwise_singleton _ _,fun z hz w hw=>by replace hw:=j4.mp hw;subst hw;exact hb z hz⟩,fun z hz=> ?_,fun z hz=> ?_⟩
  ·rcases jq.mp hz with hz|hz
   ·exact c3 z hz
   ·replace hz:=j4.mp hz;subst hz;exact(h.mem z).mpr ⟨_,hy⟩
  ·rcases jq.mp hz with hz|hz
   ·exact .inr (hb z hz)
   ·replace hz:=j4.mp hz;exact .inl hz
theorem Lay.long{R:Str->Str->Prop}{p:List Str}{L:List (List Str)}(h:Lay R p L):∀(c:List Str) (i:Nat),c.Pairwise R->(∀z∈c,z∈p)->(∀z k,c.head? =some z->z∈lv L k->i<=k)->i<=L.length->i+c.length<=L.length
 |[],i,_,_,_,hi=>by exact hi
 |z::c,i,hp,hm,hh,_=>by
  obtain⟨k,hk⟩:=(h.mem z).mp (hm z jk)
  have du:k<L.length:=Nat.lt_of_not_le fun e=>by rw[gZ e] at hk;cases hk
  have hik:=hh z k rfl hk
  have:=h.long c (k+1) (List.pairwise_cons.mp hp).2 (fun w hw=>hm w (qO _ hw)) (fun w j hw hj=>by
   have hwc:w∈c:=by
    induction c using cL with
    |nil=>cases hw
    |cons a c=>have:some a=some w:=hw
               replace this:=j6 this;subst this
               exact jk
   have:=h.up z w k j (List.rel_of_pairwise_cons hp hwc) hk hj
   lia) (by lia)
  simp only[List.length_cons]
  lia
theorem mirsky{R:Str->Str->Prop}{rows:qF}(hR:∀x y,R x y↔(x,y)∈rows)(O:Ord R){out:List Str}(hn:out.Nodup)(hm:∀x y,R x y->x∈out/\y∈out)(hp:out.Pairwise (fun a b=>¬R b a))(jG:List (List Str))(hl:jG=out.foldl (fun made name=>yg made name rows) []):
  (∃c:List Str,c.length=jG.length/\c.Pairwise R/\∀z∈c,z∈out)/\(∀c:List Str,c.Pairwise R->(∀z∈c,z∈out)->c.length<=jG.length)/\∀ly∈jG,∀q∈rows,¬(q.1∈ly/\q.2∈ly):=by
 have h:Lay R ([]++out) jG:=by
  rw[hl]
  exact lay_all hR O out [] [] (jHv R) hn hm hp
 rw[List.nil_append] at h
 refine⟨?_,fun c hc rX=> ?_,fun ly aP q hq ⟨g1,g2⟩=> ?_⟩
 ·generalize hL:jG.length=x0;induction x0 using cN with
  |zero=>exact vM [] rfl List.Pairwise.nil (fun z hz=>by cases hz)
  |succ k=>
   obtain⟨y,hy⟩:=List.exists_mem_of_ne_nil _ (h.ne k (by lia))
   obtain⟨c,c1,c2,c3,_⟩:=h.chain O k y hy
   exact vM c c1 c2 c3
 ·have:=h.long c 0 hc rX (fun _ _ _ _=>Nat.zero_le _) (Nat.zero_le _)
  (refine xJ ?_ (by assumption);simp+arith)
 ·obtain⟨k,hk,e⟩:=List.getElem_of_mem aP
  have e:lv jG k=ly:=by
   unfold lv
   rw[List.getD_eq_getElem?_getD,List.getElem?_eq_getElem hk,e];rfl
  rw[<-e] at g1 g2
  exact Nat.lt_irrefl _ (h.up q.1 q.2 k k ((hR _ _).mpr hq) g1 g2)
noncomputable def yX(one:qF):List Str:=xv (one.map (·.2))
noncomputable def xR(q:List qF×List (List Str))(one:qF):List qF×List (List Str):=if yX one∈q.2 then q else (q.1++[one],q.2++[yX one])
noncomputable def xd(name:Str)(rows:qF)(state:qF):List qF:=state::(rows.filter fun q=>q.1==name&& !decide (q.2∈state.map (·.2))).map fun q=>state++[q]
noncomputable def yN(states:List qF)(name:Str)(rows:qF):List qF:=((states.flatMap (xd name rows)).foldl xR ([],[])).1
theorem u4(xs:List qF):∀q,q.1.length=q.2.length->(xs.foldl xR q).1.length=(xs.foldl xR q).2.length/\(xs.foldl xR q).1.length<=q.1.length+xs.length:=by
 induction xs with
 |nil=>intro q h;exact⟨h,by simp⟩
 |cons x xs ih=>
  intro q h
  rw[List.foldl_cons]
  by_cases e:yX x∈q.2
  ·have:xR q x=q:=by unfold xR;rw[if_pos e]
   rw[this]
   have:=ih q h
   refine⟨this.1,?_⟩
   have:=this.2
   simp only[List.length_cons];(refine xJ (by assumption) ?_;simp+arith)
  ·have h2:xR q x=(q.1++[x],q.2++[yX x]):=by unfold xR;rw[if_neg e]
   rw[h2]
   have:=ih (q.1++[x],q.2++[yX x]) (by simp[h])
   refine⟨this.1,?_⟩
   have:=this.2
   simp only[List.length_cons,List.length_append,List.length_nil] at this ⊢;(refine xJ (by assumption) ?_;simp+arith)
noncomputable def qK:Fn:=fnAt Challenge.pw_oy0159_01 "_law_joined"
structure dU(name:Str)(rows:qF)(l:jQ)(q:List qF×List (List Str)):Prop where
 made:l "made"=some (.own (q.1.map j9))
 seen:l "seen"=some (.own (q.2.map jC))
 name:l "name"=some (.val (.str name))
 rows:l "rows"=some (.val (j9 rows))
theorem dU.set{name:Str}{rows:qF}{l:jQ}{q:List qF×List (List Str)}(h:dU name rows l q){x:Str}{b:B}(h1:x∈(["state","laid","one","key"]:List Str)):dU name rows (jA l x b) q:=by
 have jv:∀y∈(["made","seen","name","rows"]:List Str),y≠x:=by
  intro y hy
  simp only[List.mem_cons,List.not_mem_nil,or_false] at h1 hy
  rcases h1 with rfl|rfl|rfl|rfl <;> rcases hy with rfl|rfl|rfl|rfl <;> decide
 exact⟨(qf (jv _ x9)).trans h.made,(qf (jv _ (by (first|exact x9|exact kK)))).trans h.seen,(qf (jv _ (by (first|exact x9|exact mF)))).trans h.name,(qf (jv _ (by (first|exact x9|exact nu)))).trans h.rows⟩
noncomputable def vb(b:List Stmt):Stmt:=qR (xH (qR b 2)) 1
theorem jDb{name:Str}{rows:qF}(ones:List qF):∀(l:jQ) (q:List qF×List (List Str)),dU name rows l q->q.1.length=q.2.length->q.1.length+ones.length<=100000->(∀o∈ones,o.length<=50)->
  ∃l',forL (ev jK glob (n+15)) false qK.scope (rq (vb qK.body)) (xH (vb qK.body)) l (ones.map j9)=some (.next,l')/\dU name rows l' (ones.foldl xR q):=by
 induction ones with
 |nil=>
  intro l q h _ _ _
  exact⟨l,xj,h⟩
 |cons one ones ih=>
  intro l q h he hl ho
  have jw:lim=1000000:=rfl
  have bq:=ho one jk
  simp only[List.length_cons] at hl
  have h1:=h.set (x:="one") (b:= .val (j9 one)) mF
  have h2:=h1.set (x:="key") (b:= .val (jC (yX one))) nu
  generalize wu:jA l "one" (.val (j9 one))=l1 at h1 h2
  have hk:(ev jK glob (n+15)).S false qK.scope l1 ((xH (vb qK.body)).getD 0 (.Pass ⟨0,0,0,0⟩))=some (.next,jA l1 "key" (.val (jC (yX one)))):=by
   refine jT (jf (x:=jC (one.map (·.2))) kR kR kD kD kR kR ?_ (xl (by simp;exact(zo15 zA zD)))) kR kR
   refine(vT yC (fun q=> .str q.2) one (dJ (jD kR kR (jE (by rw[<-wu];exact jI)))) kR kR (fun q hq=>by kernel_rfl) j8).trans ?_
   unfold jC;rw[List.map_map];rfl
  generalize hl2:jA l1 "key" (.val (jC (yX one)))=l2 at h2 hk
  have hkey:l2 "key"=some (.val (jC (yX one))):=by rw[<-hl2];exact jI
  have hone2:l2 "one"=some (.val (j9 one)):=by rw[<-hl2,<-wu,qf kD];exact jI
  have ht:Bt (ev jK glob (n+14)) false qK.scope (qx l2) 4 (aB ((xH (vb qK.body)).getD 1 (.Pass ⟨0,0,0,0⟩)))=some (!decide (yX one∈q.2)):=
   j5 kR (x:=jC (yX one)) (y:= .list (q.2.map jC)) (jD kR kR (jP hkey)) (jD kR kR (vc h2.seen)) (jZ.strs.notIn kD _ _)
  have hb:∃l3,qV (ev jK glob (n+15)) false qK.scope l1 (xH (vb qK.body))=some (.next,l3)/\dU name rows l3 (xR q one):=by
   refine(?_:∃l3,qV (ev jK glob (n+15)) false qK.scope l1 [_,.If _ [_,_] [] _]=some (.next,l3)/\_)
   by_cases e:yX one∈q.2
   ·refine⟨l2,?_,?_⟩
    ·refine(jF hk).trans ((jF ((xu ht).trans ?_)).trans jW)
     rw[decide_eq_true e]
     exact jW
    ·have:xR q one=q:=by unfold xR;rw[if_pos e]
     rw[this];exact h2
   ·have hq:xR q one=(q.1++[one],q.2++[yX one]):=by unfold xR;rw[if_neg e]
    rw[hq]
    refine⟨jA (jA l2 "seen" (.own (q.2.map jC++[jC (yX one)]))) "made" (.own (q.1.map j9++[j9 one])),?_,?_⟩
    ·refine(jF hk).trans ((jF ((xu ht).trans ?_)).trans jW)
     rw[decide_eq_false e]
     refine(jF (yT h2.seen (jD kR kR (jE hkey)) kR kR kR kR (by simp;lia))).trans ?_
     refine(jF (yT ((sN).trans h2.made) (jD kR kR (jE ((sN).trans hone2))) kR kR kR kR (by simp;lia))).trans jW
    ·refine⟨jI.trans (by first|with_reducible rfl|simp),(sN).trans (jI.trans (by simp)),(sN).trans ((sN).trans h2.name),(sN).trans ((sN).trans h2.rows)⟩
  refine jH hb fun l3 e3 h3=> ?_;clear hb
  have hlen:=u4 [one] q he
  simp only[List.foldl_cons,List.foldl_nil,List.length_cons,List.length_nil] at hlen
  obtain⟨l',e',h'⟩:=ih l3 (xR q one) h3 hlen.1 (by lia) fun o ho'=>ho o (qO _ ho')
  exact⟨l',(jo (by rw[<-wu];rfl) e3).trans e',h'⟩
theorem jCi{name:Str}{rows:qF}{state:qF}(h:(rows.filter fun q=>q.1==name).length<=5):(xd name rows state).length<=6:=by
 unfold xd
 have:(rows.filter fun q=>q.1==name&& !decide (q.2∈state.map (·.2))).length<=(rows.filter fun q=>q.1==name).length:=by
  rw[show (rows.filter fun q=>q.1==name&& !decide (q.2∈state.map (·.2)))=(rows.filter fun q=>q.1==name).filter fun q=> !decide (q.2∈state.map (·.2)) by
   rw[List.filter_filter]
   refine List.filter_congr fun q _=> ?_
   exact Bool.and_comm _ _]
  exact List.length_filter_le _ _
 simp only[List.length_cons,List.length_map]
 lia
theorem jCh{name:Str}{rows:qF}{state o:qF}(h:o∈xd name rows state):o.length<=state.length+1:=by
 unfold xd at h
 rcases j0.mp h with rfl|h
 ·exact Nat.le_succ _
 ·refine lE h ?_;rintro q _ rfl
  simp
noncomputable def f9:List Stmt->Stmt
 |[_,_,s,_]=>s
 |_=> .Pass ⟨0,0,0,0⟩
theorem jDa{name:Str}{rows:qF}(hr:rows.length<=1000)(hf:(rows.filter fun q=>q.1==name).length<=5)(states:List qF):∀(l:jQ) (q:List qF×List (List Str)),dU name rows l q->q.1.length=q.2.length->q.1.length+6 * states.length<=100000->(∀o∈states,o.length<=49)->
  ∃l',forL (ev jK glob (n+16)) false qK.scope (rq (f9 qK.body)) (xH (f9 qK.body)) l (states.map j9)=some (.next,l')/\dU name rows l' ((states.flatMap (xd name rows)).foldl xR q):=by
 induction states with
 |nil=>
  intro l q h _ _ _
  exact⟨l,xj,h⟩
 |cons state states ih=>
  intro l q h he hl ho
  have jw:lim=1000000:=rfl
  have xo:=ho state jk
  simp only[List.length_cons] at hl
  have h1:=h.set (x:="state") (b:= .val (j9 state)) x9
  have h2:=h1.set (x:="laid") (b:= .val (jC (state.map (·.2)))) kK
  generalize wu:jA l "state" (.val (j9 state))=l1 at h1 h2
  have u5:l1 "state"=some (.val (j9 state)):=by rw[<-wu];exact jI
  generalize hl2:jA l1 "laid" (.val (jC (state.map (·.2))))=l2 at h2
  have vI:l2 "state"=some (.val (j9 state)):=by rw[<-hl2,qf kD];exact u5
  have hla2:l2 "laid"=some (.val (jC (state.map (·.2)))):=by rw[<-hl2];exact jI
  have hopt:=jCi (state:=state) hf
  refine jH (jDb (glob:=glob) (n:=n) (xd name rows state) l2 q h2 he (by lia) fun o hm=>by have:=jCh hm;lia) fun l3 e3 h3=> ?_
  have hlen:=u4 (xd name rows state) q he
  have hb:qV (ev jK glob (n+16)) false qK.scope l1 (xH (f9 qK.body))=some (.next,l3):=by
   refine(?_:qV (ev jK glob (n+16)) false qK.scope l1 [_,.For _ (.BinOp _ .Add _ _) _ [] _]=_)
   refine(jF (l1:=l2) (by rw[<-hl2];exact jT ((vT yC (fun q=> .str q.2) state (dJ (jD kR kR (jE u5))) kR kR (fun q hq=>by kernel_rfl) j8).trans (by unfold jC;rw[List.map_map];rfl)) kR kR)).trans ?_
   refine(jF (we (its:=(xd name rows state).map j9) kR ?_ e3)).trans jW
   ·refine dJ ?_
    refine j7 (x:=zF [state]) (y:=zF ((rows.filter fun q=>q.1==name&& !decide (q.2∈state.map (·.2))).map fun q=>state++[q])) ?_ ?_ ?_
    ·exact dB kR (jD kR kR (jE vI))
    ·refine(vS yC (fun q=>q.1==name&& !decide (q.2∈state.map (·.2))) (fun q=>j9 (state++[q])) rows (dJ (jD kR kR (jE h2.rows))) kR kR ?_ ?_ j8).trans ?_
     ·intro p hp
      refine zL (gj ?_ ?_)
      ·refine j5 kR (x:= .str p.1) (y:= .str name) kR (jD kR kR ?_) kR
       exact(jE h2.name:jV l2 "name"=_)
      ·refine j5 kR (x:= .str p.2) (y:= .list ((state.map (·.2)).map .str)) kR (jD kR kR ?_) (jZ.str.notIn kD _ _)
       exact(jE hla2:jV l2 "laid"=_)
     ·intro p hp _
      refine j7 (x:=j9 state) (y:= .list [yC p]) (jD kR kR ?_) kR ?_
      ·exact(jE vI:jV l2 "state"=_)
      ·exact(add_lists (by rw[List.length_map];refine(?_:_+1<=_);lia)).trans (by simp[j9])
     ·unfold zF
      rw[List.map_map];rfl
    ·refine(add_lists ?_).trans ?_
     ·have:(rows.filter fun q=>q.1==name&& !decide (q.2∈state.map (·.2))).length<=rows.length:=List.length_filter_le _ _
      simp only[List.length_map,List.length_singleton];lia
     ·unfold xd
      simp
  obtain⟨l',e',h'⟩:=ih l3 _ h3 hlen.1 (by lia) fun o ho'=>ho o (qO _ ho')
  refine⟨l',(jo (by rw[<-wu];rfl) hb).trans e',?_⟩
  rw[List.flatMap_cons,List.foldl_append]
  exact h'
theorem jFw(states:List qF)(name:Str)(rows:qF)(hr:rows.length<=1000)(hf:(rows.filter fun q=>q.1==name).length<=5)(h1:states.length<=10000)(h2:∀o∈states,o.length<=49):
  (zK jK (ev jK glob (n+20)) "_law_joined" [zF states,.str name,j9 rows]).bind qB=some (zF (yN states name rows)):=by
 refine(?_:(qV (ev jK glob (n+20)) false qK.scope (jA (jA (jA (fun _=>none) "rows" (.val (j9 rows))) "name" (.val (.str name))) "states" (.val (zF states))) qK.body).bind qB=_)
 refine(?_:(qV (ev jK glob (n+20)) false qK.scope _ [_,_,.For _ (.Name _ _) _ [] _,_]).bind qB=_)
 refine qD (zP (ds:=[]) kR kR kR kR) ?_
 refine qD (zP (ds:=[]) kR kR kR kR) ?_
 refine jH (jDa (glob:=glob) (n:=n+3) (name:=name) hr hf states (jA (jA (jA (jA (jA (fun _=>none) "rows" (.val (j9 rows))) "name" (.val (.str name))) "states" (.val (zF states))) "made" (.own [])) "seen" (.own [])) ([],[]) ⟨kR,kR,kR,kR⟩ rfl (by simp;lia) h2) fun l' e' h'=> ?_
 refine qD (we (its:=states.map j9) kR kR e') (kH (wV (jD kR kR (vc h'.made))))
end
section
variable{fns:List (Str×Fn)}{glob:xO}{k:Bool}{sc jS:Scope}{l:Loc}{it u7 elt ke ve:Expr}{ifs oL:List Expr}{x y z:Str}{tp nK pos:Pos}{n:Nat}
theorem dcomp{α:Type}(f:α->D)(t:α->Bool)(ek:α->Str)(e:α->D)(xs:List α){a:Int}{kvs:xO}(hit:((ev fns glob n).E k sc l it).bind ju=some (xs.map f))(ok:jm sc jS [⟨.Name x tp,it,ifs,a⟩]=true)(hx:(jL jS l x).isSome=false)
  (ht:∀q∈xs,xK (ev fns glob n) k (jR sc jS) (jA (jL jS l) x (f q)) ifs=some (t q)) (hk:∀q∈xs,t q=true->(ev fns glob n).E k (jR sc jS) (jA (jL jS l) x (f q)) ke=some (.str (ek q))) (he:∀q∈xs,t q=true->(ev fns glob n).E k (jR sc jS) (jA (jL jS l) x (f q)) ve=some (e q)) (hl:xs.length<=lim)
  (hd:dictS? [] ((xs.filter t).map fun q=> .tup [.str (ek q),e q])=some kvs):
  (ev fns glob (n+1)).E k sc l (.DictComp ke ve [⟨.Name x tp,it,ifs,a⟩] jS pos)=some (.dictS kvs):=by
 have h1:=d9 (it:=it) (tp:=tp) (k:=k) f t (fun q=> .tup [.str (ek q),e q]) (uJ (ev fns glob n) k (jR sc jS) ke ve) xs a hx ht fun q hq hh=>by
  unfold uJ
  rw[hk q hq hh,he q hq hh];rfl
 refine(?_:(((ev fns glob n).E k sc l it).bind ju).bind (fun its=>if jm sc jS [⟨.Name x tp,it,ifs,a⟩]=true then (compLoop (ev fns glob n) k (jR sc jS) (jL jS l) ⟨.Name x tp,it,ifs,a⟩ (fun l'=>(uJ (ev fns glob n) k (jR sc jS) ke ve l').map fun x=>[x]) its).bind fun ps=>if ps.length<=lim then (dictS? [] ps).map D.dictS else none else none)=_)
 rw[hit]
 refine(if_pos ok).trans ?_
 rw[h1]
 show (if _ then _ else _)=_
 rw[if_pos (by rw[List.length_map];exact xJ (List.length_filter_le _ _) hl),hd];rfl
theorem jH7{α:Type}(ek:α->Str)(e:α->D)(xs:List α):∀(acc:xO),(xs.map ek).Nodup->(∀q∈xs,(acc.lookup (ek q)).isSome=false)->dictS? acc (xs.map fun q=> .tup [.str (ek q),e q])=some (acc++xs.map fun q=>(ek q,e q)):=by
 induction xs with
 |nil=>
  intro acc _ _
  rw[List.map_nil,List.map_nil,List.append_nil];rfl
 |cons q xs ih=>
  intro acc hn ha
  rw[List.map_cons]
  refine(?_:dictS? (qt acc (ek q) (e q)) (xs.map fun q=> .tup [.str (ek q),e q])=_)
  have h0:=ha q jk
  have hs:qt acc (ek q) (e q)=acc++[(ek q,e q)]:=by
   unfold qt;rw[h0];rfl
  rw[hs,ih (acc++[(ek q,e q)]) (y7.mp hn).2]
  ·simp
  ·intro p hp
   have h1:=ha p (qO _ hp)
   rw[List.lookup_append]
   have h2:acc.lookup (ek p)=none:=by
    generalize e:acc.lookup (ek p)=x0;induction x0 using cO with
    |none=>rfl
    |some v=>rw[e] at h1;cases h1
   have jv:(ek p==ek q)=false:=by
    rw[beq_eq_false_iff_ne]
    intro e'
    exact(y7.mp hn).1 (e'▸List.mem_map_of_mem hp)
   rw[h2]
   simp[List.lookup_cons,jv]
noncomputable def q7(way:qF)(line:List Str):List Str:=match line.getLast? with
 |some x=>(match way.lookup x with
  |some y=>line++[y]
  |none=>line)
 |none=>line
noncomputable def zr(names:List Str)(way:qF):List (List Str):=(names.filter fun x=> !decide (x∈way.map (·.2))).map fun x=>[x]
noncomputable def ji(names:List Str)(way:qF):List (List Str):=names.foldl (fun ls _=>ls.map (q7 way)) (zr names way)
noncomputable def yk:Fn:=fnAt Challenge.pw_oy0159_01 "_law_lines"
theorem lookup_map2{way:qF}:(way.map fun q=>(q.1,D.str q.2)).lookup x=(way.lookup x).map .str:=by
 induction way with
 |nil=>rfl
 |cons q way ih=>
  obtain⟨a,b⟩:=q
  rw[List.map_cons,List.lookup_cons,List.lookup_cons]
  generalize h:(x==a)=x0;induction x0 using cT with
  |true=>rfl
  |false=>exact ih
theorem jHm(way:qF)(line:List Str):(q7 way line).length<=line.length+1/\(line≠[]->q7 way line≠[]):=by
 unfold q7
 split
 ·split
  ·simp
  ·exact⟨(Nat.le_succ _),id⟩
 ·exact⟨(Nat.le_succ _),id⟩
noncomputable def gM(b:List Stmt):Stmt:=qR b 2
noncomputable def lcS(e:Expr)(d:Scope):Scope:=by
 induction e using cE with
 |ListComp _ _ c _=>exact c
 |_=>exact d
theorem jFu{way:qF}(names:List Str):∀(l:jQ) (ls:List (List Str)),l "nexts"=some (.val (D.dictS (way.map fun q:Str×Str=>(q.1,D.str q.2))))->l "lines"=some (.val (jb ls))->ls.length<=1000->(∀x∈ls,x≠[]/\x.length+names.length<=1000)->
  ∃l',forL (ev jK glob (n+15)) false yk.scope (rq (gM yk.body)) (xH (gM yk.body)) l (names.map .str)=some (.next,l')/\l' "lines"=some (.val (jb (names.foldl (fun ls _=>ls.map (q7 way)) ls))):=by
 induction names with
 |nil=>
  intro l ls h1 h2 _ _
  exact⟨l,xj,h2⟩
 |cons x names ih=>
  intro l ls h1 h2 hlen hb
  have jw:lim=1000000:=rfl
  have g1:jA l "turn" (.val (.str x)) "nexts"=some (.val (D.dictS (way.map fun q:Str×Str=>(q.1,D.str q.2)))):=(sN).trans h1
  have g2:jA l "turn" (.val (.str x)) "lines"=some (.val (jb ls)):=(sN).trans h2
  generalize wu:jA l "turn" (.val (.str x))=l1 at g1 g2
  have hs:qV (ev jK glob (n+15)) false yk.scope l1 (xH (gM yk.body))=some (.next,jA l1 "lines" (.val (jb (ls.map (q7 way))))):=by
   refine(?_:qV (ev jK glob (n+15)) false yk.scope l1 [.Assign [_] (.ListComp (.IfExp _ _ _ _) _ _ _) _]=_)
   refine(jF (jT (d:=jb (ls.map (q7 way))) ((vT jC (fun q=>jC (q7 way q)) ls (dJ (jD kR kR (jE g2))) kR kR ?_ j8).trans ?_) kR kR)).trans jW
   ·intro q hq
    obtain⟨lS,aK⟩:=hb q hq
    simp only[List.length_cons] at aK
    obtain⟨u,hu⟩:∃u,q.getLast? =some u:=by
     generalize h:q.getLast? =x0;induction x0 using cO with
     |none=>exact absurd (List.getLast?_eq_none_iff.mp h) lS
     |some u=>exact⟨u,rfl⟩
    have hlast:∀{sc:Scope} {p1 p2 p3 p4:Pos} {m:Nat} {lp:Loc},isVar (sc.names.lookup ("line":Str))=true->lp "line"=some (jC q)->(ev jK glob (m+2)).E false sc lp (.Subscript (.Name "line" p1) (.UnaryOp .USub (.Constant (.int 1) 0 p2) p3) p4)=some (.str u):=by
     intro sc p1 p2 p3 p4 m lp hv hl
     refine je (by rfl) (x:=jC q) (y:= .int (-1)) (jD kR hv hl) kR ?_
     refine(?_:(if (q.map D.str).length<=lim then (idx? (-1) (q.map D.str).length).bind ((q.map D.str)[·]?) else none)=_)
     have ku:0<q.length:=List.length_pos_iff.mpr lS
     rw[if_pos (by simp;lia),List.length_map]
     unfold idx?
     rw[if_neg kD,if_pos (by lia)]
     refine(?_:(q.map D.str)[(-1+(q.length:Int)).toNat]? =_)
     rw[show (-1+(q.length:Int)).toNat=q.length - 1 by lia,List.getElem?_map,<-List.getLast?_eq_getElem?,hu]
     rfl
    have hn:jA (jL (lcS (lA (qR (xH (gM yk.body)) 0)) yk.scope) (jV l1)) "line" (jC q) "nexts"=some (D.dictS (way.map fun q:Str×Str=>(q.1,D.str q.2))):=(jE g1:jV l1 "nexts"=_)
    have mT:inD (.str u) (D.dictS (way.map fun q:Str×Str=>(q.1,D.str q.2)))=some (way.lookup u).isSome:=by
     refine(?_:some ((way.map fun q=>(q.1,D.str q.2)).lookup u).isSome=_)
     rw[lookup_map2];simp
    refine zx (c:=(way.lookup u).isSome) ?_ ?_
    ·exact j5 kR (x:= .str u) (y:=D.dictS (way.map fun q:Str×Str=>(q.1,D.str q.2))) (hlast kR kR) (jD kR kR hn) mT
    ·generalize hw:way.lookup u=x0;induction x0 using cO with
     |none=>
      have:q7 way q=q:=by unfold q7;rw[hu];dsimp only;rw[hw]
      rw[this]
      exact jD kR kR kR
     |some y=>
      have:q7 way q=q++[y]:=by unfold q7;rw[hu];dsimp only;rw[hw]
      rw[this]
      refine(?_:(ev jK glob (n+12)).E false _ _ (.BinOp _ .Add (.List [_] _) _)=_)
      refine j7 (x:=jC q) (y:=jC [y]) (jD kR kR kR) (dB kR (je kR (x:=D.dictS (way.map fun q:Str×Str=>(q.1,D.str q.2))) (y:= .str u) (jD kR kR hn) (hlast kR kR) ?_)) ?_
      ·refine(?_:(way.map fun q=>(q.1,D.str q.2)).lookup u=_)
       rw[lookup_map2,hw];rfl
      ·exact(add_lists (by rw[List.length_map];refine(?_:_+1<=_);lia)).trans (by simp[jC])
   ·unfold jb
    rw[List.map_map];rfl
  have fE:∀y∈ls.map (q7 way),y≠[]/\y.length+names.length<=1000:=by
   intro y hy
   refine lE hy ?_;rintro z hz rfl
   obtain⟨h3,h4⟩:=hb z hz
   have:=jHm way z
   simp only[List.length_cons] at h4
   exact⟨this.2 h3,by lia⟩
  refine jH (ih (jA l1 "lines" (.val (jb (ls.map (q7 way))))) (ls.map (q7 way)) ((sN).trans g1) jI (by simpa using hlen) fE) fun l' e' h'=> ?_
  exact⟨l',(jo (by rw[<-wu];rfl) hs).trans e',h'⟩
theorem lines_val(names:List Str)(way:qF)(hn:(way.map (·.1)).Nodup)(h1:names.length<=100)(h2:way.length<=1000):
  (zK jK (ev jK glob (n+20)) "_law_lines" [jC names,j9 way]).bind qB=some (jb (ji names way)):=by
 have jw:lim=1000000:=rfl
 refine(?_:(qV (ev jK glob (n+20)) false yk.scope (jA (jA (fun _=>none) "way" (.val (j9 way))) "names" (.val (jC names))) yk.body).bind qB=_)
 refine(?_:(qV (ev jK glob (n+20)) false yk.scope _ [_,_,.For _ (.Name _ _) _ [] _,_]).bind qB=_)
 refine qD (jT (d:=D.dictS (way.map fun q:Str×Str=>(q.1,D.str q.2))) (dcomp yC (fun _=>true) (fun q=>q.1) (fun q=> .str q.2) way kR kR kR (fun q hq=>by kernel_rfl) (fun q hq _=>by kernel_rfl) (fun q hq _=>by kernel_rfl) j8 ?_) kR kR) ?_
 ·rw[List.filter_eq_self.mpr fun _ _=>rfl]
  rw[jH7 (fun q:Str×Str=>q.1) (fun q=> .str q.2) way [] hn (fun _ _=>rfl)]
  rfl
 refine qD (jT (d:=jb (zr names way)) ((vS .str (fun x=> !decide (x∈way.map (·.2))) (fun x=>jC [x]) names kR kR kR ?_ (fun q hq _=>by kernel_rfl) j8).trans ?_) kR kR) ?_
 ·intro q hq
  refine zL (j5 kR (x:= .str q) (y:= .list ((way.map (·.2)).map .str)) kR ?_ (jZ.str.notIn kD _ _))
  refine(vT yC (fun q=> .str q.2) way kR kR kR (fun q hq=>by kernel_rfl) j8).trans ?_
  rw[List.map_map];rfl
 ·unfold jb zr
  rw[List.map_map];rfl
 have hb:∀x∈zr names way,x≠[]/\x.length+names.length<=1000:=by
  intro x hx
  refine lE hx ?_;rintro y _ rfl
  exact⟨by simp,by simp;lia⟩
 have um:(zr names way).length<=1000:=by
  unfold zr
  rw[List.length_map]
  exact xJ (List.length_filter_le _ _) j8
 refine jH (jFu (glob:=glob) (n:=n+4) (way:=way) names (jA (jA (jA (jA (fun _=>none) "way" (.val (j9 way))) "names" (.val (jC names))) "nexts" (.val (D.dictS (way.map fun q:Str×Str=>(q.1,D.str q.2))))) "lines" (.val (jb (zr names way)))) (zr names way) kR kR um hb) fun l' e' h'=> ?_
 exact qD (we (its:=names.map .str) kR kR e') (kH (wV (jD kR kR (jP h'))))
noncomputable def x8(x:Int)(k:Nat):Bool:=decide (x / 2 ^ k % 2=1)
variable{a b:Expr}{m:Nat}{p1 p2 p3 p4 p5 p6 p7 p8:Pos}
theorem gK{i:Nat}(h:i<=29):wy .Pow (.int 2) (.int (i:Int))=some (.int (2 ^ i)):=by
 refine(?_:Option.map D.int (if ((2:Int)=2\/(2:Int)=8)/\0<=(i:Int)/\(i:Int)<=64 then some ((2 ^ (i:Int).toNat)) else none)=_)
 rw[bA]
 rw[if_pos ⟨.inl rfl,by lia,by lia⟩]
 rfl
theorem pow2_lt{i:Nat}(h:i<=29):((2:Int) ^ i)≠0/\((2:Int) ^ i).natAbs<1073741824/\0<=(2:Int) ^ i:=by
 have h1:((2:Int) ^ i)=((2 ^ i:Nat):Int):=by simp
 have h2:2 ^ i<=2 ^ 29:=Nat.pow_le_pow_right kD h
 have h3:0<2 ^ i:=Nat.pow_pos kD
 rw[h1]
 generalize 2 ^ i=z at h2 h3
 exact⟨fun e=>Nat.ne_of_gt h3 (Int.ofNat_eq_zero.mp e),Nat.lt_of_le_of_lt h2 kD,Int.natCast_nonneg _⟩
theorem jEa{x:Int}{i:Nat}(h:i<=29):wy .FloorDiv (.int x) (.int (2 ^ i))=some (.int (x / 2 ^ i)):=by
 refine yD (pow2_lt h) fun h1 h2 h3=> ?_
 refine(?_:Option.map D.int (if (2:Int) ^ i≠0/\((2:Int) ^ i).natAbs<1073741824 then some ((x.fdiv (2 ^ i))) else none)=_)
 rw[bA]
 rw[if_pos ⟨h1,h2⟩,Int.fdiv_eq_ediv_of_nonneg _ h3]
theorem mod_val{x y:Int}(h:0<y):wy .Mod (.int x) (.int y)=some (.int (x % y)):=by
 refine(?_:Option.map D.int (if y≠0 then some ((x.fmod y)) else none)=_)
 rw[bA]
 rw[if_pos (by lia),Int.fmod_eq_emod_of_nonneg _ (by lia)]
theorem div_val{x y:Int}(h:0<y)(h2:y<1000000):wy .FloorDiv (.int x) (.int y)=some (.int (x / y)):=by
 refine(?_:Option.map D.int (if y≠0/\y.natAbs<1073741824 then some ((x.fdiv y)) else none)=_)
 rw[bA]
 rw[if_pos ⟨by lia,by lia⟩,Int.fdiv_eq_ediv_of_nonneg _ (by lia)]
theorem rO{x:Int}{i:Nat}(ha:(ev fns glob (n+2)).E k sc l a=some (.int x))(hb:(ev fns glob (n+1)).E k sc l b=some (.int (i:Int)))(h:i<=29):
  Bt (ev fns glob (n+4)) k sc l (m+1) (.Compare (.BinOp (.BinOp a .FloorDiv (.BinOp (.Constant (.int 2) 0 p1) .Pow b p2) p3) .Mod (.Constant (.int 2) 0 p4) p5) [.Eq] [.Constant (.int 1) 0 p6] p7)=some (x8 x i):=by
 refine j5 (by rfl) (x:= .int (x / 2 ^ i % 2)) (y:= .int 1) (j7 (x:= .int (x / 2 ^ i)) (y:= .int 2) (j7 ha (j7 (x:= .int 2) (by rfl) hb (gK h)) (jEa h)) (by rfl) (mod_val kD)) (by rfl) ?_
 exact jZ.int.eq kD _ _
noncomputable def sa(q:Nat×Nat):D:= .tup [.int (q.1:Int),.int (q.2:Int)]
noncomputable def qY(p:List (Nat×Nat)):D:= .list (p.map sa)
noncomputable def jJ(c:Nat):List Nat:=(List.range 5).filter fun k=>x8 (c:Int) k
noncomputable def z9(P:List (Nat×Nat))(c:Nat):Nat:=(P.filter fun q=>decide (q.1∈jJ c)&&decide (q.2∈jJ c)).length
noncomputable def j3(P:List (Nat×Nat))(q:Nat×Nat)(c:Nat):Nat×Nat:=
 (if z9 P c=0 then max q.1 (jJ c).length else q.1,if 2 * z9 P c=(jJ c).length * ((jJ c).length - 1) then max q.2 (jJ c).length else q.2)
noncomputable def yl(P:List (Nat×Nat)):Nat×Nat:=(List.range 32).foldl (j3 P) (0,0)
noncomputable def jd:Fn:=fnAt Challenge.pw_oy0159_01 "_law_greatest"
theorem v9:jZ (fun k:Nat=>D.int (k:Int)) 0 where
 like:=fun a b=>rfl
 beq:=fun a b=>by
  refine(?_:((a:Int)==(b:Int))=decide (a=b))
  rw[Bool.eq_iff_iff,beq_iff_eq,decide_eq_true_eq]
  lia
 dep:=fun a=>Nat.le_refl _
theorem jFx(c:Nat):(jJ c).length<=5:=xJ (List.length_filter_le _ _) (by simp)
theorem jGo{a b:Nat}:q8 "max" [.int (a:Int),.int (b:Int)]=some (.int ((max a b:Nat):Int)):=by
 refine(?_:some (D.int (if (b:Int) > (a:Int) then (b:Int) else (a:Int)))=_)
 rw[arM]
theorem jEg{lp:Loc}{x y d:D}{p:Pos}{g:Str}{pg:Pos}(hk:sc.names.lookup g=some .globalImplicit)(h0:(g==("__debug__":Str))=false)(h1:g≠"reduce")(h2:g≠"isinstance")(h3:(fns.lookup g).isSome=false)(hs:PySem.W.isStarred a=false)(z6:PySem.W.isStarred b=false)(ha:(ev fns glob n).E k sc lp a=some x)(fE:(ev fns glob n).E k sc lp b=some y)(hb:q8 g [x,y]=some d):
  (ev fns glob (n+1)).E k sc lp (.Call (.Name g pg) [a,b] [] p)=some d:=jDt hk h0 h1 h2 h3 (xk hs ha (uE z6 fE)) hb
theorem vt{lp:Loc}{ds:List D}{p pg:Pos}(hk:sc.names.lookup ("len":Str)=some .globalImplicit)(h3:(fns.lookup ("len":Str)).isSome=false)(hs:PySem.W.isStarred a=false)(ha:(ev fns glob n).E k sc lp a=some (.list ds))(hl:ds.length<=lim):
  (ev fns glob (n+1)).E k sc lp (.Call (.Name "len" pg) [a] [] p)=some (.int (ds.length:Int)):=
 jf hk kD kD kD h3 hs ha (len_list hl)
theorem jF1{P:List (Nat×Nat)}(hP:P.length<=1000){l:jQ}{q:Nat×Nat}{c:Nat}(h1:l "pairs"=some (.val (qY P)))(h2:l "found"=some (.val (.list [.int (q.1:Int),.int (q.2:Int)])))(h3:l "chosen"=some (.val (.int (c:Int)))):
  ∃l',qV (ev jK glob (n+15)) false jd.scope l (xH (qR jd.body 1))=some (.next,l')/\l' "pairs"=some (.val (qY P))/\l' "found"=some (.val (.list [.int ((j3 P q c).1:Int),.int ((j3 P q c).2:Int)])):=by
 have jw:lim=1000000:=rfl
 have mT:=jFx c
 refine(?_:∃l',qV (ev jK glob (n+15)) false jd.scope l [.Assign [_] (.ListComp _ _ _ _) _,.Assign [_] (.Call (.Name _ _) [.ListComp _ _ _ _] [] _) _,.Assign [_] (.List [.IfExp _ _ _ _,.IfExp _ _ _ _] _) _]=some (.next,l')/\_)
 let l1:=jA l "inside" (.val (.list ((jJ c).map fun k:Nat=> .int (k:Int))))
 let l2:=jA l1 "held" (.val (.int (z9 P c:Int)))
 let l3:=jA l2 "found" (.val (.list [.int ((j3 P q c).1:Int),.int ((j3 P q c).2:Int)]))
 have e1:(ev jK glob (n+15)).S false jd.scope l (qR (xH (qR jd.body 1)) 0)=some (.next,l1):=by
  refine jT (vS (fun k:Nat=> .int (k:Int)) (fun k=>x8 (c:Int) k) (fun k=> .int (k:Int)) (List.range 5) kR kR kR ?_ (fun k hk _=>by kernel_rfl) (by simp;decide)) kR kR
  intro k hk
  have hk:=yQ.mp hk
  exact zL (rO (jD kR kR (jE h3:jV l "chosen"=_)) kR (rh zA zD))
 have hi:l1 "inside"=some (.val (.list ((jJ c).map fun k:Nat=> .int (k:Int)))):=jI
 have sG:l1 "pairs"=some (.val (qY P)):=(sN).trans h1
 have bL:l1 "found"=some (.val (.list [.int (q.1:Int),.int (q.2:Int)])):=(sN).trans h2
 generalize hg1:l1=m1 at e1 hi sG bL
 have aU:l2=jA m1 "held" (.val (.int (z9 P c:Int))):=by rw[<-hg1]
 have e2:(ev jK glob (n+15)).S false jd.scope m1 (qR (xH (qR jd.body 1)) 1)=some (.next,l2):=by
  rw[aU]
  refine jT (vt (ds:=(P.filter fun q=>decide (q.1∈jJ c)&&decide (q.2∈jJ c)).map fun q=> .int (q.1:Int)) kR kR kR ?_ ?_ |>.trans ?_) kR kR
  ·refine fk (fun q:Nat×Nat=>(.int (q.1:Int),.int (q.2:Int))) (fun q=>decide (q.1∈jJ c)&&decide (q.2∈jJ c)) (fun q=> .int (q.1:Int)) P (dJ (jD kR kR (jE sG))) kR kR kR ?_ (fun k hk _=>by kernel_rfl) j8
   intro p hp
   refine zL (gj ?_ ?_)
   ·exact j5 kR (x:= .int (p.1:Int)) (y:= .list ((jJ c).map fun k:Nat=> .int (k:Int))) kR (jD kR kR (jE hi:jV m1 "inside"=_)) (v9.isIn kD _ _)
   ·exact j5 kR (x:= .int (p.2:Int)) (y:= .list ((jJ c).map fun k:Nat=> .int (k:Int))) kR (jD kR kR (jE hi:jV m1 "inside"=_)) (v9.isIn kD _ _)
  ·rw[List.length_map]
   exact xJ (List.length_filter_le _ _) j8
  ·rw[List.length_map];rfl
 have hh:l2 "held"=some (.val (.int (z9 P c:Int))):=jI
 have hi2:l2 "inside"=some (.val (.list ((jJ c).map fun k:Nat=> .int (k:Int)))):=by rw[aU];exact(sN).trans hi
 have aM:l2 "pairs"=some (.val (qY P)):=by rw[aU];exact(sN).trans sG
 have tS:l2 "found"=some (.val (.list [.int (q.1:Int),.int (q.2:Int)])):=by rw[aU];exact(sN).trans bL
 have lY:l3=jA l2 "found" (.val (.list [.int ((j3 P q c).1:Int),.int ((j3 P q c).2:Int)])):=rfl
 clear_value l3
 generalize l2=m2 at e2 hh hi2 aM tS lY
 have hlen:∀{p pg p2:Pos} {j:Nat},(ev jK glob (j+2)).E false jd.scope (jV m2) (.Call (.Name "len" pg) [.Name "inside" p2] [] p)=some (.int ((jJ c).length:Int)):=by
  intro p pg p2 j
  refine(vt kR kR kR (jD kR kR (jE hi2)) (by rw[List.length_map];exact j8)).trans ?_
  rw[List.length_map]
 have hfound:∀{p p2 p3:Pos} {j:Nat},(ev jK glob (j+2)).E false jd.scope (jV m2) (.Subscript (.Name "found" p) (.Constant (.int 0) 0 p2) p3)=some (.int (q.1:Int)):=by
  intro p p2 p3 j
  exact je (by rfl) (x:= .list [.int (q.1:Int),.int (q.2:Int)]) (y:= .int 0) (jD kR kR (jE tS)) kR kR
 have jGr:∀{p p2 p3:Pos} {j:Nat},(ev jK glob (j+2)).E false jd.scope (jV m2) (.Subscript (.Name "found" p) (.Constant (.int 1) 0 p2) p3)=some (.int (q.2:Int)):=by
  intro p p2 p3 j
  exact je (by rfl) (x:= .list [.int (q.1:Int),.int (q.2:Int)]) (y:= .int 1) (jD kR kR (jE tS)) kR kR
 have hheld:∀{p:Pos} {j:Nat},(ev jK glob (j+1)).E false jd.scope (jV m2) (.Name "held" p)=some (.int (z9 P c:Int)):=by
  intro p j
  exact jD kR kR (jE hh)
 have e3:(ev jK glob (n+15)).S false jd.scope m2 (qR (xH (qR jd.body 1)) 2)=some (.next,l3):=by
  rw[lY]
  refine jT (jG1 (x:= .int ((j3 P q c).1:Int)) (y:= .int ((j3 P q c).2:Int)) kR kR ?_ ?_) kR kR
  ·refine zx (c:=decide ((z9 P c:Int)=0)) (j5 kR (x:= .int (z9 P c:Int)) (y:= .int 0) hheld kR (jZ.int.eq kD _ _)) ?_
   unfold j3
   by_cases e:z9 P c=0
   ·rw[if_pos e,decide_eq_true (by lia)]
    exact jEg kR kR kD kD kR kR kR hfound hlen jGo
   ·rw[if_neg e,decide_eq_false (by lia)]
    exact hfound
  ·have hcast:(((jJ c).length:Int) * (((jJ c).length:Int) - 1))=(((jJ c).length * ((jJ c).length - 1):Nat):Int):=by
    generalize (jJ c).length=z at mT
    match z with
    |0=>rfl
    |z+1=>simp
   refine zx (c:=decide (2 * (z9 P c:Int)=(((jJ c).length * ((jJ c).length - 1):Nat):Int))) (j5 kR (x:= .int (2 * (z9 P c:Int))) (y:= .int (((jJ c).length * ((jJ c).length - 1):Nat):Int)) (j7 (x:= .int 2) (y:= .int (z9 P c:Int)) kR hheld kR) (j7 (x:= .int ((jJ c).length:Int)) (y:= .int (((jJ c).length:Int) - 1)) hlen (j7 (x:= .int ((jJ c).length:Int)) (y:= .int 1) hlen kR kR) ?_) (jZ.int.eq kD _ _)) ?_
   ·have hs:small ((jJ c).length:Int)=true:=by
     unfold small
     refine decide_eq_true ?_
     have:(5:Nat)<2 ^ 60:=by decide
     lia
    refine(?_:Option.map D.int (if (small ((jJ c).length:Int)||small (((jJ c).length:Int) - 1))=true then some ((((jJ c).length:Int) * (((jJ c).length:Int) - 1))) else none)=_)
    rw[bA]
    rw[hs,hcast];rfl
   ·unfold j3
    by_cases e:2 * z9 P c=(jJ c).length * ((jJ c).length - 1)
    ·rw[if_pos e,decide_eq_true (by rw[<-e];simp)]
     exact jEg kR kR kD kD kR kR kR jGr hlen jGo
    ·rw[if_neg e,decide_eq_false (fun h=>e (by lia))]
     exact jGr
 refine vM l3 ((jF e1).trans ((jF e2).trans ((jF e3).trans jW))) ?_ ?_
 ·rw[lY];exact(sN).trans aM
 ·rw[lY];exact jI
theorem jF2{P:List (Nat×Nat)}(hP:P.length<=1000)(cs:List Nat):∀(l:jQ) (q:Nat×Nat),l "pairs"=some (.val (qY P))->l "found"=some (.val (.list [.int (q.1:Int),.int (q.2:Int)]))->
  ∃l',forL (ev jK glob (n+15)) false jd.scope (rq (qR jd.body 1)) (xH (qR jd.body 1)) l (cs.map fun k:Nat=> .int (k:Int))=some (.next,l')/\l' "found"=some (.val (.list [.int ((cs.foldl (j3 P) q).1:Int),.int ((cs.foldl (j3 P) q).2:Int)])):=by
 induction cs with
 |nil=>
  intro l q _ h2
  exact⟨l,xj,h2⟩
 |cons c cs ih=>
  intro l q h1 h2
  refine xQ (jF1 (glob:=glob) (n:=n) (q:=q) (c:=c) hP (l:=jA l "chosen" (.val (.int (c:Int)))) ((sN).trans h1) ((sN).trans h2) jI) fun l2 e2 g1 g2=> ?_
  refine jH (ih l2 (j3 P q c) g1 g2) fun l' e' g'=> ?_
  exact⟨l',(jo rfl e2).trans e',g'⟩
theorem jH3(P:List (Nat×Nat))(hP:P.length<=1000):
  (zK jK (ev jK glob (n+20)) "_law_greatest" [qY P]).bind qB=some (.list [.int ((yl P).1:Int),.int ((yl P).2:Int)]):=by
 refine(?_:(qV (ev jK glob (n+20)) false jd.scope (jA (fun _=>none) "pairs" (.val (qY P))) jd.body).bind qB=_)
 refine(?_:(qV (ev jK glob (n+20)) false jd.scope _ [_,.For _ (.Call (.Name _ _) [.Constant _ _ _] [] _) _ [] _,_]).bind qB=_)
 refine qD (jT (d:= .list [.int 0,.int 0]) kR kR kR) ?_
 refine jH (jF2 (glob:=glob) (n:=n+4) hP (List.range 32) (jA (jA (fun _=>none) "pairs" (.val (qY P))) "found" (.val (.list [.int 0,.int 0]))) (0,0) kR kR) fun l' e' h'=> ?_
 exact qD (we (its:=(List.range 32).map fun k:Nat=> .int (k:Int)) kR kR e') (kH (wV (jD kR kR (jP h'))))
end
section
variable{fns:List (Str×Fn)}{glob:xO}{k:Bool}{sc jS:Scope}{l:Loc}{a b c:Expr}{n m:Nat}{p pg:Pos}{f:Str}{x y z d:D}
theorem gG(hk:sc.names.lookup f=some .globalImplicit)(h0:(f==("__debug__":Str))=false)(h1:f≠"reduce")(h2:f≠"isinstance")(h3:(fns.lookup f).isSome=true)(hs:PySem.W.isStarred a=false)(ha:(ev fns glob n).E k sc l a=some x)(hb:(zK fns (ev fns glob n) f [x]).bind qB=some d):
  (ev fns glob (n+1)).E k sc l (.Call (.Name f pg) [a] [] p)=some d:=uR hk h0 h1 h2 h3 (uE hs ha) hb
theorem E_call2(hk:sc.names.lookup f=some .globalImplicit)(h0:(f==("__debug__":Str))=false)(h1:f≠"reduce")(h2:f≠"isinstance")(h3:(fns.lookup f).isSome=true)(hs:PySem.W.isStarred a=false)(z6:PySem.W.isStarred b=false)(ha:(ev fns glob n).E k sc l a=some x)(fG:(ev fns glob n).E k sc l b=some y)(hb:(zK fns (ev fns glob n) f [x,y]).bind qB=some d):
  (ev fns glob (n+1)).E k sc l (.Call (.Name f pg) [a,b] [] p)=some d:=uR hk h0 h1 h2 h3 (xk hs ha (uE z6 fG)) hb
theorem dC(hk:sc.names.lookup f=some .globalImplicit)(h0:(f==("__debug__":Str))=false)(h1:f≠"reduce")(h2:f≠"isinstance")(h3:(fns.lookup f).isSome=true)(hs:PySem.W.isStarred a=false)(z6:PySem.W.isStarred b=false)(fM:PySem.W.isStarred c=false)(ha:(ev fns glob n).E k sc l a=some x)(fG:(ev fns glob n).E k sc l b=some y)(ha'':(ev fns glob n).E k sc l c=some z)(hb:(zK fns (ev fns glob n) f [x,y,z]).bind qB=some d):
  (ev fns glob (n+1)).E k sc l (.Call (.Name f pg) [a,b,c] [] p)=some d:=uR hk h0 h1 h2 h3 (xk hs ha (xk z6 fG (uE fM ha''))) hb
noncomputable abbrev jO:xO:=[("_filemode_table",tabD)]
noncomputable def rD(idx:Nat)(m b:Int):Bool:=if idx=0 then decide (Builtin.bitAnd m 61440=b) else decide (Builtin.bitAnd m b=b)
noncomputable def xr(idx:Nat)(m:Int)(rows:List (Int×Str)):Str:=match rows.find? (fun q=>rD idx m q.1) with
 |some q=>q.2
 |none=>if idx=0 then "?" else "-"
noncomputable def xe:Fn:=fnAt Challenge.pw_oy0159_01 "filemode"
structure uD(idx:Nat)(m:Int)(l:jQ)(ps:List Str):Prop where
 perm:l "perm"=some (.own (ps.map .str))
 index:l "index"=some (.val (.int (idx:Int)))
 mode:l "mode"=some (.val (.int m))
theorem uD.set{idx:Nat}{m:Int}{l:jQ}{ps:List Str}(h:uD idx m l ps){x:Str}{b:B}(h1:x∈(["bit","char","table"]:List Str)):uD idx m (jA l x b) ps:=by
 have jv:∀y∈(["perm","index","mode"]:List Str),y≠x:=by
  intro y hy
  simp only[List.mem_cons,List.not_mem_nil,or_false] at h1 hy
  rcases h1 with rfl|rfl|rfl <;> rcases hy with rfl|rfl|rfl <;> decide
 exact⟨(qf (jv _ x9)).trans h.perm,(qf (jv _ kK)).trans h.index,(qf (jv _ mF)).trans h.mode⟩
noncomputable def wO:Stmt:=qR (xH (qR xe.body 1)) 0
noncomputable def fQ(q:Int×Str):D:= .tup [.int q.1,.str q.2]
theorem fm_turn{idx:Nat}{m:Int}{l:jQ}{ps:List Str}{q:Int×Str}(h:uD idx m l ps)(hb:l "bit"=some (.val (.int q.1)))(hc:l "char"=some (.val (.str q.2)))(hl:ps.length<=1000):
  ∃l',qV (ev jK jO (n+15)) false xe.scope l (xH wO)=some (if rD idx m q.1 then .brk else .next,l')/\uD idx m l' (if rD idx m q.1 then ps++[q.2] else ps):=by
 have jw:lim=1000000:=rfl
 have happ:(ev jK jO (n+13)).S false xe.scope l (qR (aC (qR (aC (qR (xH wO) 0)) 0)) 0)=some (.next,jA l "perm" (.own (ps.map .str++[.str q.2]))):=
  yT h.perm (jD kR kR (jE hc)) kR kR kR kR (by simp;exact j8)
 have happ2:(ev jK jO (n+13)).S false xe.scope l (qR (aC (qR (ifO (qR (xH wO) 0)) 0)) 0)=some (.next,jA l "perm" (.own (ps.map .str++[.str q.2]))):=
  yT h.perm (jD kR kR (jE hc)) kR kR kR kR (by simp;exact j8)
 have mT:uD idx m (jA l "perm" (.own (ps.map .str++[.str q.2]))) (ps++[q.2]):=⟨jI.trans (by simp),(sN).trans h.index,(sN).trans h.mode⟩
 refine(?_:∃l',qV (ev jK jO (n+15)) false xe.scope l [.If _ [.If _ [_,.Break _] [] _] [.If _ [_,.Break _] [] _] _]=_/\_)
 have h0:Bt (ev jK jO (n+14)) false xe.scope (qx l) 4 (aB (qR (xH wO) 0))=some (decide ((idx:Int)=0)):=
  j5 kR (x:= .int (idx:Int)) (y:= .int 0) (jD kR kR (jP h.index)) kR (jZ.int.eq kD _ _)
 by_cases e0:idx=0
 ·have h1:Bt (ev jK jO (n+13)) false xe.scope (qx l) 4 (aB (qR (aC (qR (xH wO) 0)) 0))=some (decide (Builtin.bitAnd m 61440=q.1)):=
   j5 kR (x:= .int (Builtin.bitAnd m 61440)) (y:= .int q.1) (gG kR kR kD kD kR kR (jD kR kR (jP h.mode)) kR) (jD kR kR (jP hb)) (jZ.int.eq kD _ _)
  have ht:rD idx m q.1=decide (Builtin.bitAnd m 61440=q.1):=by unfold rD;rw[if_pos e0]
  rw[ht]
  by_cases e1:Builtin.bitAnd m 61440=q.1
  ·rw[decide_eq_true e1]
   refine⟨_,yO ((xu h0).trans ?_),mT⟩
   rw[decide_eq_true (by lia)]
   refine yO ((xu h1).trans ?_)
   rw[decide_eq_true e1]
   exact(jF happ).trans (yO rfl)
  ·rw[decide_eq_false e1]
   refine⟨l,(jF ((xu h0).trans ?_)).trans jW,h⟩
   rw[decide_eq_true (by lia)]
   refine(jF ((xu h1).trans ?_)).trans jW
   rw[decide_eq_false e1]
   exact jW
 ·have h1:Bt (ev jK jO (n+13)) false xe.scope (qx l) 4 (aB (qR (ifO (qR (xH wO) 0)) 0))=some (decide (Builtin.bitAnd m q.1=q.1)):=
   j5 kR (x:= .int (Builtin.bitAnd m q.1)) (y:= .int q.1) (j7 (jD kR kR (jP h.mode)) (jD kR kR (jP hb)) kR) (jD kR kR (jP hb)) (jZ.int.eq kD _ _)
  have ht:rD idx m q.1=decide (Builtin.bitAnd m q.1=q.1):=by unfold rD;rw[if_neg e0]
  rw[ht]
  by_cases e1:Builtin.bitAnd m q.1=q.1
  ·rw[decide_eq_true e1]
   refine⟨_,yO ((xu h0).trans ?_),mT⟩
   rw[decide_eq_false (by lia)]
   refine yO ((xu h1).trans ?_)
   rw[decide_eq_true e1]
   exact(jF happ2).trans (yO rfl)
  ·rw[decide_eq_false e1]
   refine⟨l,(jF ((xu h0).trans ?_)).trans jW,h⟩
   rw[decide_eq_false (by lia)]
   refine(jF ((xu h1).trans ?_)).trans jW
   rw[decide_eq_false e1]
   exact jW
theorem jJn{idx:Nat}{m:Int}(rows:List (Int×Str)):∀(l:jQ) (ps:List Str),uD idx m l ps->ps.length<=1000->
  ∃l',forL (ev jK jO (n+15)) false xe.scope (rq wO) (xH wO) l (rows.map fQ)=some (if (rows.find? fun q=>rD idx m q.1).isSome then .brk else .next,l')/\uD idx m l' (ps++((rows.find? fun q=>rD idx m q.1).map (·.2)).toList):=by
 induction rows with
 |nil=>
  intro l ps h _
  exact⟨l,xj,by simpa using h⟩
 |cons q rows ih=>
  intro l ps h hl
  refine jH (fm_turn (n:=n) (q:=q) (l:=jA (jA l "bit" (.val (.int q.1))) "char" (.val (.str q.2))) ((h.set x9).set kK) ((sN).trans jI) jI hl) fun l2 e2 h2=> ?_
  generalize ht:rD idx m q.1=x0;induction x0 using cT with
  |true=>
   rw[ht] at e2 h2
   refine⟨l2,?_,?_⟩
   ·rw[List.find?_cons_of_pos (by exact ht)]
    exact uV rfl e2
   ·rw[List.find?_cons_of_pos (by exact ht)]
    exact h2
  |false=>
   rw[ht] at e2 h2
   obtain⟨l',e',h'⟩:=ih l2 ps h2 hl
   refine⟨l',?_,?_⟩
   ·rw[List.find?_cons_of_neg (by simp[ht])]
    exact(jo rfl e2).trans e'
   ·rw[List.find?_cons_of_neg (by simp[ht])]
    exact h'
noncomputable def og:Stmt:=qR xe.body 1
noncomputable def tabEnt(q:Nat×List (Int×Str)):D:= .tup [.int (q.1:Int),.tup (q.2.map fQ)]
theorem jJm{m:Int}(tabs:List (Nat×List (Int×Str))):∀(l:jQ) (ps:List Str),l "perm"=some (.own (ps.map .str))->l "mode"=some (.val (.int m))->ps.length+tabs.length<=900->
  ∃l',forL (ev jK jO (n+16)) false xe.scope (rq og) (xH og) l (tabs.map tabEnt)=some (.next,l')/\l' "perm"=some (.own ((ps++tabs.map fun q=>xr q.1 m q.2).map .str)):=by
 induction tabs with
 |nil=>
  intro l ps h1 h2 _
  exact⟨l,xj,by simpa using h1⟩
 |cons q0 tabs ih=>
  obtain⟨idx,rows⟩:=q0
  intro l ps h1 h2 hl
  have jw:lim=1000000:=rfl
  simp only[List.length_cons] at hl
  have h0:uD idx m (jA (jA l "index" (.val (.int (idx:Int)))) "table" (.val (.tup (rows.map fQ)))) ps:=⟨(sN).trans ((sN).trans h1),(sN).trans jI,(sN).trans ((sN).trans h2)⟩
  have ht:jA (jA l "index" (.val (.int (idx:Int)))) "table" (.val (.tup (rows.map fQ))) "table"=some (.val (.tup (rows.map fQ))):=jI
  generalize wu:jA (jA l "index" (.val (.int (idx:Int)))) "table" (.val (.tup (rows.map fQ)))=l1 at h0 ht
  refine jH (jJn (n:=n) rows l1 ps h0 (by lia)) fun l2 e2 i2=> ?_
  have hits:zV (ev jK jO (n+15)) false xe.scope (jV l1) (itE wO)=some (rows.map fQ):=by
   refine(?_:(((ev jK jO (n+15)).E false xe.scope (jV l1) (.Name "table" _)).bind ju)=_)
   rw[jD kR kR (jE ht)];rfl
  have kG:∃l3,qV (ev jK jO (n+16)) false xe.scope l1 (xH og)=some (.next,l3)/\uD idx m l3 (ps++[xr idx m rows]):=by
   refine(?_:∃l3,qV (ev jK jO (n+16)) false xe.scope l1 [.For _ (.Name _ _) _ [.If _ _ _ _] _]=_/\_)
   generalize hf:(rows.find? (fun q=>rD idx m q.1))=x0;induction x0 using cO with
   |some q=>
    rw[hf] at e2 i2
    have:xr idx m rows=q.2:=by unfold xr;rw[hf]
    rw[this]
    exact⟨l2,(jF (fu kR hits e2)).trans jW,i2⟩
   |none=>
    rw[hf] at e2 i2
    have i2:uD idx m l2 ps:=by simpa using i2
    have hc:xr idx m rows=if idx=0 then ("?":Str) else ("-":Str):=by unfold xr;rw[hf]
    have h0:Bt (ev jK jO (n+14)) false xe.scope (qx l2) 4 (aB (qR (forO wO) 0))=some (decide ((idx:Int)=0)):=
     j5 kR (x:= .int (idx:Int)) (y:= .int 0) (jD kR kR (jP i2.index)) kR (jZ.int.eq kD _ _)
    by_cases e0:idx=0
    ·have hc:xr idx m rows="?":=by rw[hc,if_pos e0]
     rw[hc]
     refine⟨jA l2 "perm" (.own (ps.map .str++[.str "?"])),(jF (ft kR hits e2 (.inl rfl) ((jF ((xu h0).trans ?_)).trans jW))).trans jW,⟨jI.trans (by simp),(sN).trans i2.index,(sN).trans i2.mode⟩⟩
     rw[decide_eq_true (by lia)]
     exact(jF (yT i2.perm kR kR kR kR kR (by simp;lia))).trans jW
    ·have hc:xr idx m rows="-":=by rw[hc,if_neg e0]
     rw[hc]
     refine⟨jA l2 "perm" (.own (ps.map .str++[.str "-"])),(jF (ft kR hits e2 (.inl rfl) ((jF ((xu h0).trans ?_)).trans jW))).trans jW,⟨jI.trans (by simp),(sN).trans i2.index,(sN).trans i2.mode⟩⟩
     rw[decide_eq_false (by lia)]
     exact(jF (yT i2.perm kR kR kR kR kR (by simp;lia))).trans jW
  refine jH kG fun l3 e3 i3=> ?_;clear kG
  refine jH (ih l3 (ps++[xr idx m rows]) i3.perm i3.mode (by simp;(refine xJ ?_ (by assumption);simp+arith))) fun l' e' h'=> ?_
  refine⟨l',(jo (by rw[<-wu];rfl) e3).trans e',?_⟩
  rw[h'];simp
noncomputable def ub:List (Nat×List (Int×Str)):=[(0,[(40960,"l"),(49152,"s"),(32768,"-"),(24576,"b"),(16384,"d"),(8192,"c"),(4096,"p")]),(1,[(256,"r")]),(2,[(128,"w")]),(3,[(2112,"s"),(2048,"S"),(64,"x")]),(4,[(32,"r")]),(5,[(16,"w")]),(6,[(1032,"s"),(1024,"S"),(8,"x")]),(7,[(4,"r")]),(8,[(2,"w")]),(9,[(513,"t"),(512,"T"),(1,"x")])]
noncomputable def dZ(m:Int):Str:=Txt.join "" (ub.map fun q=>xr q.1 m q.2)
set_option tactic.hygienic true in
theorem fmC_len{idx:Nat}{m:Int}{rows:List (Int×Str)}(h:∀q∈rows,q.2.length<=1000):(xr idx m rows).length<=1000:=by
 unfold xr
 split
 ·rename_i q hq
  exact h _ (List.mem_of_find?_eq_some hq)
 ·split <;> decide
variable{o:Expr}{ap cp:Pos}
theorem oW(h1:zM o=false)(h2:(ap.endLine==cp.line)=true)(h3:f≠"replace")(hs:PySem.W.isStarred a=false)(ho:(ev fns glob n).E k sc l o=some x)(ha:(ev fns glob n).E k sc l a=some y)(hb:kC x f [y]=some d):
  (ev fns glob (n+1)).E k sc l (.Call (.Attribute o f ap) [a] [] cp)=some d:=jDs h1 h2 h3 (Nat.le_of_ble_eq_true rfl) (Nat.succ_ne_zero _) ho (uE hs ha) hb
theorem jFh:∀q∈ub,∀p∈q.2,p.2.length<=1000:=by decide
theorem jI2(m:Int):(zK jK (ev jK jO (n+20)) "filemode" [.int m]).bind qB=some (.str (dZ m)):=by
 refine(?_:(qV (ev jK jO (n+20)) false xe.scope (jA (fun _=>none) "mode" (.val (.int m))) xe.body).bind qB=_)
 refine(?_:(qV (ev jK jO (n+20)) false xe.scope _ [_,.For _ (.Call (.Name _ _) [_] [] _) _ [] _,.Return (some (.Call (.Attribute _ _ _) [_] [] _)) _]).bind qB=_)
 refine qD (zP (ds:=[]) kR kR kR kR) ?_
 refine jH (jJm (n:=n+3) (m:=m) ub (jA (jA (fun _=>none) "mode" (.val (.int m))) "perm" (.own [])) [] kR kR kD) fun l' e' h'=> ?_
 refine qD (we (its:=ub.map tabEnt) kR kR e') (kH (wV (oW (x:= .str "") (y:= .list ((ub.map fun q=>xr q.1 m q.2).map .str)) kR kR kD kR kR (jD kR kR ?_) ?_)))
 ·refine(vc h').trans ?_
  simp
 ·refine(?_:(if (("":Str)).length=0/\((ub.map fun q=>xr q.1 m q.2).map D.str).length<=1000 then (strs? ((ub.map fun q=>xr q.1 m q.2).map D.str)).bind fun ss=>if (ss.all fun s=>decide (s.length<=1000))=true then some (D.str (Txt.join "" ss)) else none else none)=_)
  rw[if_pos ⟨by decide,by simp[ub]⟩,strs_map]
  refine(?_:(if ((ub.map fun q=>xr q.1 m q.2).all fun s=>decide (s.length<=1000))=true then some (D.str (Txt.join "" (ub.map fun q=>xr q.1 m q.2))) else none)=_)
  rw[if_pos]
  ·rfl
  ·rw[List.all_eq_true]
   intro s hs
   refine lE hs ?_;rintro q hq rfl
   refine decide_eq_true (fmC_len ?_)
   exact jFh q hq
noncomputable def chr(s:Str)(i:Int):Str:=⟨#[s.cps.getD i.toNat 0]⟩
theorem ka{s:Str}{i:Int}(h0:0<=i)(h1:i<(s.length:Int))(h2:s.length<=1000):wN (.str s) (.int i)=some (.str (chr s i)):=by
 have jw:lim=1000000:=rfl
 refine(?_:(if s.length<=lim then (idx? i s.length).bind fun k=>(s.cps[k]?).map fun c=>D.str ⟨#[c]⟩ else none)=_)
 rw[if_pos j8]
 unfold idx?
 rw[if_pos h0,if_pos h1]
 have hi:i.toNat<s.cps.size:=by
  have:s.length=s.cps.size:=rfl
  lia
 refine(?_:(s.cps[i.toNat]?).map (fun c=>D.str ⟨#[c]⟩)=_)
 unfold chr
 rw[Array.getD_eq_getD_getElem?,Array.getElem?_eq_getElem hi]
 rfl
theorem zw(s:Str)(i:Int):(chr s i).length=1:=rfl
theorem yp{a b:Str}(h:a.length+b.length<=lim):wy .Add (.str a) (.str b)=some (.str (a++b)):=by
 refine(?_:(if a.length+b.length<=lim then some (D.str (a++b)) else none)=_)
 rw[if_pos h]
theorem StrLen.append(a b:Str):(a++b).length=a.length+b.length:=Str.length_append a b
noncomputable def yd(m:Int)(k:Nat):Int:=m / 8 ^ k % 8
noncomputable def zH(m:Int)(k:Nat)(sg:Str):Str:=sg++chr "-r" (yd m k / 4)++chr "-w" (yd m k / 2 % 2)++chr (if k=0 then "-xTt" else "-xSs") (yd m k % 2+m / 512 / 2 ^ k % 2 * 2)
noncomputable def wM(m:Int):Str:=zH m 0 (zH m 1 (zH m 2 (chr "?pc?d?b?-?l?s???" (m / 4096 % 16))))
noncomputable def list1:Fn:=fnAt Challenge.pw_oy0159_01 "_law_listing"
theorem jIu{i:Nat}(h:i<=2):wy .Pow (.int 8) (.int (i:Int))=some (.int (8 ^ i)):=by
 refine(?_:Option.map D.int (if ((8:Int)=2\/(8:Int)=8)/\0<=(i:Int)/\(i:Int)<=64 then some ((8 ^ (i:Int).toNat)) else none)=_)
 rw[bA]
 rw[if_pos ⟨.inr rfl,by lia,by lia⟩]
 rfl
theorem pow8_lt{i:Nat}(h:i<=2):0<(8:Int) ^ i/\(8:Int) ^ i<1000000:=by
 match i,h with
 |0,_=>decide
 |1,_=>decide
 |2,_=>decide
theorem gw{k:Nat}{m:Int}{l:jQ}{sg:Str}(hk:k<=2)(h1:l "signs"=some (.val (.str sg)))(h2:l "mode"=some (.val (.int m)))(h3:l "k"=some (.val (.int (k:Int))))(hl:sg.length<=100):
  ∃l',qV (ev jK glob (n+15)) false list1.scope l (xH (qR list1.body 1))=some (.next,l')/\l' "signs"=some (.val (.str (zH m k sg)))/\l' "mode"=some (.val (.int m)):=by
 have jw:lim=1000000:=rfl
 obtain⟨p1,p2⟩:=pow8_lt hk
 have hd0:0<=yd m k/\yd m k<8:=by unfold yd;lia
 refine(?_:∃l',qV (ev jK glob (n+15)) false list1.scope l [.Assign [_] (.BinOp (.BinOp _ _ (.BinOp _ _ _ _) _) _ _ _) _,.Assign [_] (.BinOp (.BinOp (.BinOp _ .Add (.Subscript _ (.BinOp _ _ _ _) _) _) .Add (.Subscript _ (.BinOp (.BinOp _ _ _ _) _ _ _) _) _) .Add (.Subscript (.IfExp _ _ _ _) (.BinOp (.BinOp _ _ _ _) _ (.BinOp (.BinOp (.BinOp (.BinOp _ _ _ _) _ (.BinOp _ _ _ _) _) _ _ _) _ _ _) _) _) _) _]=_/\_)
 have e1:(ev jK glob (n+15)).S false list1.scope l (qR (xH (qR list1.body 1)) 0)=some (.next,jA l "digit" (.val (.int (yd m k)))):=by
  refine jT (j7 (x:= .int (m / 8 ^ k)) (y:= .int 8) (j7 (x:= .int m) (y:= .int (8 ^ k)) (jD kR kR (jE h2)) (j7 (x:= .int 8) (y:= .int (k:Int)) kR (jD kR kR (jE h3)) (jIu hk)) (div_val p1 p2)) kR (mod_val kD)) kR kR
 have g1:jA l "digit" (.val (.int (yd m k))) "signs"=some (.val (.str sg)):=(sN).trans h1
 have g2:jA l "digit" (.val (.int (yd m k))) "mode"=some (.val (.int m)):=(sN).trans h2
 have g3:jA l "digit" (.val (.int (yd m k))) "k"=some (.val (.int (k:Int))):=(sN).trans h3
 have g4:jA l "digit" (.val (.int (yd m k))) "digit"=some (.val (.int (yd m k))):=jI
 generalize jA l "digit" (.val (.int (yd m k)))=l2 at e1 g1 g2 g3 g4
 have cG:∀{p:Pos} {j:Nat},(ev jK glob (j+1)).E false list1.scope (jV l2) (.Name "digit" p)=some (.int (yd m k)):=fun {p j}=>jD kR kR (jE g4)
 have e2:(ev jK glob (n+15)).S false list1.scope l2 (qR (xH (qR list1.body 1)) 1)=some (.next,jA l2 "signs" (.val (.str (zH m k sg)))):=by
  refine jT (j7 (x:= .str (sg++chr "-r" (yd m k / 4)++chr "-w" (yd m k / 2 % 2))) (y:= .str (chr (if k=0 then "-xTt" else "-xSs") (yd m k % 2+m / 512 / 2 ^ k % 2 * 2))) (j7 (x:= .str (sg++chr "-r" (yd m k / 4))) (y:= .str (chr "-w" (yd m k / 2 % 2))) (j7 (x:= .str sg) (y:= .str (chr "-r" (yd m k / 4))) (jD kR kR (jE g1)) (je kR (x:= .str "-r") (y:= .int (yd m k / 4)) kR (j7 cG kR (div_val (by omega+splitMinMax) (by omega+splitMinMax))) (ka ?_ ?_ kD)) (yp ?_)) (je kR (x:= .str "-w") (y:= .int (yd m k / 2 % 2)) kR (j7 (j7 cG kR (div_val (by omega+splitMinMax) (by omega+splitMinMax))) kR (mod_val (by omega+splitMinMax))) (ka ?_ ?_ kD)) (yp ?_)) (je kR (x:= .str (if k=0 then "-xTt" else "-xSs")) (y:= .int (yd m k % 2+m / 512 / 2 ^ k % 2 * 2)) (zx (c:=decide ((k:Int)=0)) (j5 kR (x:= .int (k:Int)) (y:= .int 0) (jD kR kR (jE g3)) kR (jZ.int.eq (by omega+splitMinMax) _ _)) ?_) (j7 (x:= .int (yd m k % 2)) (y:= .int (m / 512 / 2 ^ k % 2 * 2)) (j7 cG kR (mod_val (by omega+splitMinMax))) (j7 (x:= .int (m / 512 / 2 ^ k % 2)) (y:= .int 2) (j7 (x:= .int (m / 512 / 2 ^ k)) (y:= .int 2) (j7 (x:= .int (m / 512)) (y:= .int (2 ^ k)) (j7 (jD kR kR (jE g2)) kR (div_val (by omega+splitMinMax) (by omega+splitMinMax))) (j7 (x:= .int 2) (y:= .int (k:Int)) kR (jD kR kR (jE g3)) (gK (by omega+splitMinMax))) (jEa (by omega+splitMinMax))) kR (mod_val (by omega+splitMinMax))) kR ?_) kR) (ka ?_ ?_ ?_)) (yp ?_)) kR kR
  ·omega+splitMinMax
  ·rw[show ((("-r":Str).length:Nat):Int)=2 by decide];omega+splitMinMax
  ·rw[zw];omega+splitMinMax
  ·omega+splitMinMax
  ·rw[show ((("-w":Str).length:Nat):Int)=2 by decide];omega+splitMinMax
  ·rw[StrLen.append,zw,zw];omega+splitMinMax
  ·by_cases e:k=0
   ·rw[if_pos e,decide_eq_true (by omega+splitMinMax)];kernel_rfl
   ·rw[if_neg e,decide_eq_false (by omega+splitMinMax)];kernel_rfl
  ·refine(?_:Option.map D.int (if (small (m / 512 / 2 ^ k % 2)||small 2)=true then some ((m / 512 / 2 ^ k % 2 * 2)) else none)=_)
   rw[bA]
   rw[show small 2=true by decide,Bool.or_true];rfl
  ·omega+splitMinMax
  ·have:(if k=0 then ("-xTt":Str) else "-xSs").length=4:=by split <;> decide
   rw[show ((if k=0 then ("-xTt":Str) else ("-xSs":Str)).length:Int)=4 by rw[this];rfl]
   omega+splitMinMax
  ·split <;> decide
  ·rw[StrLen.append,StrLen.append,zw,zw,zw];omega+splitMinMax
 exact vM _ ((jF e1).trans ((jF e2).trans jW)) jI ((sN).trans g2)
theorem uT(m:Int)(k:Nat)(sg:Str):(zH m k sg).length=sg.length+3:=by
 unfold zH
 rw[StrLen.append,StrLen.append,StrLen.append]
 simp only[zw]
theorem jI5(m:Int):(zK jK (ev jK glob (n+20)) "_law_listing" [.int m]).bind qB=some (.str (wM m)):=by
 have h0:(chr "?pc?d?b?-?l?s???" (m / 4096 % 16)).length=1:=rfl
 refine(?_:(qV (ev jK glob (n+20)) false list1.scope (jA (fun _=>none) "mode" (.val (.int m))) list1.body).bind qB=_)
 refine(?_:(qV (ev jK glob (n+20)) false list1.scope _ [.Assign [_] (.Subscript _ (.BinOp (.BinOp _ _ _ _) _ _ _) _) _,.For _ (.Tuple _ _ _) _ [] _,_]).bind qB=_)
 refine qD (jT (d:= .str (chr "?pc?d?b?-?l?s???" (m / 4096 % 16))) (je kR (x:= .str "?pc?d?b?-?l?s???") (y:= .int (m / 4096 % 16)) kR (j7 (j7 (x:= .int m) kR kR (div_val kD kD)) kR (mod_val kD)) (ka (by lia) ?_ kD)) kR kR) ?_
 ·rw[show ((("?pc?d?b?-?l?s???":Str).length:Nat):Int)=16 by decide];lia
 generalize hc:chr "?pc?d?b?-?l?s???" (m / 4096 % 16)=c at h0
 have hl:wM m=zH m 0 (zH m 1 (zH m 2 c)):=by unfold wM;rw[hc]
 rw[hl]
 have wJ:∀{l:jQ} {k:Nat} {x:Str} {b:B},x≠"k"->l x=some b->jA l "k" (.val (.int (k:Int))) x=some b:=fun h h'=>(qf h).trans h'
 refine xQ (gw (glob:=glob) (n:=n+4) (k:=2) (m:=m) (sg:=c) (l:=jA (jA (jA (fun _=>none) "mode" (.val (.int m))) "signs" (.val (.str c))) "k" (.val (.int ((2:Nat):Int)))) kD kR kR jI (by lia)) fun l1 e1 s1 m1=> ?_
 refine xQ (gw (glob:=glob) (n:=n+4) (k:=1) (m:=m) (sg:=zH m 2 c) (l:=jA l1 "k" (.val (.int ((1:Nat):Int)))) kD (wJ kD s1) (wJ kD m1) jI (by rw[uT];lia)) fun l2 e2 s2 m2=> ?_
 refine xQ (gw (glob:=glob) (n:=n+4) (k:=0) (m:=m) (sg:=zH m 1 (zH m 2 c)) (l:=jA l2 "k" (.val (.int ((0:Nat):Int)))) kD (wJ kD s2) (wJ kD m2) jI (by rw[uT,uT];lia)) fun l3 e3 s3 m3=> ?_
 refine qD (we (its:=[.int 2,.int 1,.int 0]) kR kR (l':=l3) ?_) (kH (wV (jD kR kR (jP s3))))
 exact(jo rfl e1).trans ((jo rfl e2).trans ((jo rfl e3).trans xj))
theorem jJj{p q y:Nat}(h:p / 2+q / 2=y / 2)(k:p % 2+q % 2=y % 2):p+q=y:=by
 rw[<-Nat.div_add_mod p 2,<-Nat.div_add_mod q 2,<-Nat.div_add_mod y 2,<-h,<-k,Nat.mul_add]
 exact Nat.add_add_add_comm _ _ _ _
theorem par2:∀a b y z w:Fin 2,(a.val=1↔y.val=1/\z.val=1)->(b.val=1↔y.val=1/\w.val=1)->w.val=1 - z.val->a.val+b.val=y.val:=by decide
theorem sub_one{p z:Nat}(h:z<2 * p):2 * p - 1 - z=2 * (p - 1 - z / 2)+(1 - z % 2):=by
 obtain⟨r,e⟩:∃r,p=z / 2+1+r:=⟨_,(Nat.add_sub_cancel' (Nat.succ_le_of_lt (Nat.div_lt_of_lt_mul h))).symm⟩
 rw[Nat.sub_sub]
 refine Nat.sub_eq_of_eq_add ?_
 have e2:p - 1 - z / 2=r:=by
  rw[e,Nat.sub_sub,Nat.add_comm 1 (z / 2)]
  exact Nat.add_sub_cancel_left _ _
 have e3:1 - z % 2+z % 2=1:=Nat.sub_add_cancel (Nat.le_of_lt_succ (Nat.mod_lt z Nat.two_pos))
 rw[e2]
 have e4:2 * p=2 * (z / 2)+2+2 * r:=by rw[e,Nat.mul_add,Nat.mul_add]
 have e5:=Nat.div_add_mod z 2
 generalize z / 2=q at *
 generalize z % 2=b at *
 generalize 1 - b=c at *
 rw[e4,<-e5,show 2=c+b+1 by rw[e3]]
 simp+arith
theorem odd_sub{p z:Nat}(h:z<2 * p):(2 * p - 1 - z) % 2=1 - z % 2:=by
 rw[sub_one h,Nat.mul_add_mod]
 exact Nat.mod_eq_of_lt (Nat.lt_of_le_of_lt (Nat.sub_le _ _) kD)
theorem jJk{p z:Nat}(h:z<2 * p):(2 * p - 1 - z) / 2=p - 1 - z / 2:=by
 rw[sub_one h,Nat.mul_add_div Nat.two_pos,Nat.div_eq_of_lt (Nat.lt_of_le_of_lt (Nat.sub_le _ _) kD),Nat.add_zero]
theorem jC2:∀(n y z:Nat),y<2 ^ n->z<2 ^ n->(y&&& z)+(y&&& (2 ^ n - 1 - z))=y
 |0,y,z,hy,hz=>by
  rw[Nat.lt_one_iff.mp hy,Nat.zero_and,Nat.zero_and]
 |n+1,y,z,hy,hz=>by
  rw[Nat.pow_succ,Nat.mul_comm] at hy hz
  have ih:=jC2 n (y / 2) (z / 2) (Nat.div_lt_of_lt_mul hy) (Nat.div_lt_of_lt_mul hz)
  rw[<-jJk hz,<-Nat.and_div_two,<-Nat.and_div_two] at ih
  rw[Nat.pow_succ,Nat.mul_comm]
  have l2:∀a:Nat,a % 2<2:=fun a=>Nat.mod_lt a Nat.two_pos
  exact jJj ih (par2 ⟨_,l2 _⟩ ⟨_,l2 _⟩ ⟨_,l2 y⟩ ⟨_,l2 z⟩ ⟨_,l2 _⟩ Nat.and_mod_two_eq_one Nat.and_mod_two_eq_one (odd_sub hz))
theorem jGy(x y n:Nat)(hy:y<2 ^ n):x&&& y=(x % 2 ^ n)&&& y:=by
 refine Nat.eq_of_testBit_eq fun i=> ?_
 rw[Nat.testBit_and,Nat.testBit_and,Nat.testBit_mod_two_pow]
 by_cases h:i<n
 ·simp[h]
 ·have:y.testBit i=false:=Nat.testBit_lt_two_pow (Nat.lt_of_lt_of_le hy (Nat.pow_le_pow_right kD (by lia)))
  simp[this]
theorem arA{x:Int}(h:¬0<=x):x= -((-x - 1).toNat:Int) - 1:=by omega
theorem arB{z p r t:Int}(e:z=t+r): -z - 1=p - 1 - r+(-t - p * 1):=by omega
theorem arC{r p:Nat}(h:r<p):0<=(p:Int) - 1 - (r:Int)/\(p:Int) - 1 - (r:Int)<p:=by omega
theorem arV{a:Int}{p r:Nat}(e:a=p - 1 - r)(h:r<p):a.toNat=p - 1 - r:=by omega
theorem arW{a b y:Nat}(h:a+b=y):(y:Int) - (a:Int)=(b:Int):=by omega
theorem jBp(x:Int)(y n:Nat)(hy:y<2 ^ n):Builtin.bitAnd x (y:Int)=(((x % ((2 ^ n:Nat):Int)).toNat&&& y:Nat):Int):=by
 have h0:0<2 ^ n:=Nat.pow_pos kD
 by_cases hx:0<=x
 ·obtain⟨a,rfl⟩:=Int.eq_ofNat_of_zero_le hx
  have h1:Builtin.bitAnd (a:Int) (y:Int)=((a&&& y:Nat):Int):=by
   unfold Builtin.bitAnd
   rw[decide_eq_true hx,decide_eq_true (Int.natCast_nonneg y)]
   rfl
  rw[h1,jGy a y n hy]
  congr 2
 ·have hz:∃z:Nat,x= -(z:Int) - 1:=⟨(-x - 1).toNat,arA hx⟩
  obtain⟨z,rfl⟩:=hz
  have h1:Builtin.bitAnd (-(z:Int) - 1) (y:Int)=(y:Int) - ((y&&& z:Nat):Int):=by
   unfold Builtin.bitAnd
   rw[decide_eq_false hx,decide_eq_true (Int.natCast_nonneg y)]
   refine(?_:(y:Int) - (((y:Int).toNat&&& (Builtin.bitNot (-(z:Int) - 1)).toNat:Nat):Int)=_)
   rw[show (Builtin.bitNot (-(z:Int) - 1)).toNat=z by unfold Builtin.bitNot;lia]
   rfl
  have hm:((-(z:Int) - 1) % ((2 ^ n:Nat):Int)).toNat=2 ^ n - 1 - z % 2 ^ n:=by
   generalize 2 ^ n=p at h0
   have h2:z % p<p:=Nat.mod_lt _ h0
   have h3:(-(z:Int) - 1) % (p:Int)=(p:Int) - 1 - ((z % p:Nat):Int):=by
    have e:=Nat.div_add_mod z p
    have e2:(z:Int)=(p:Int) * ((z / p:Nat):Int)+((z % p:Nat):Int):=by exact_mod_cast e.symm
    have e3: -(z:Int) - 1=((p:Int) - 1 - ((z % p:Nat):Int))+(p:Int) * (-((z / p:Nat):Int) - 1):=by
     rw[Int.mul_sub,Int.mul_neg]
     exact arB e2
    rw[e3,Int.add_mul_emod_self_left,Int.emod_eq_of_lt (arC h2).1 (arC h2).2]
   exact arV h3 h2
  have hs:=jC2 n y (z % 2 ^ n) hy (Nat.mod_lt _ h0)
  rw[h1,hm,Nat.and_comm y z,jGy z y n hy,Nat.and_comm _ y,Nat.and_comm _ y]
  exact arW hs
theorem zh(m:Int):Builtin.bitAnd m 4095=m % 4096:=by
 have h:=jBp m 4095 12 kD
 have e:(m % ((2 ^ 12:Nat):Int)).toNat&&& 4095=(m % ((2 ^ 12:Nat):Int)).toNat:=Nat.and_two_pow_sub_one_of_lt_two_pow (n:=12) (by
  have:(2 ^ 12:Nat)=4096:=by decide
  lia)
 rw[e] at h
 have:((2 ^ 12:Nat):Int)=4096:=by decide
 rw[this] at h
 rw[show ((4095:Nat):Int)=4095 from rfl] at h
 rw[h]
 lia
theorem dA(n i:Nat):n&&& 2 ^ i=if n.testBit i then 2 ^ i else 0:=by
 refine Nat.eq_of_testBit_eq fun j=> ?_
 rw[Nat.testBit_and,Nat.testBit_two_pow]
 by_cases e:i=j
 ·subst e
  cases h:n.testBit i <;> simp
 ·cases h:n.testBit i <;> simp[e]
theorem fe(x:Int){d c:Int}(hd:0<d)(hc:0<c):x % (d * c) / d=x / d % c:=by
 have e:x=x % (d * c)+d * (c * (x / (d * c))):=by
  rw[<-Int.mul_assoc]
  exact(Int.emod_add_mul_ediv x (d * c)).symm
 have h0:0<=x % (d * c):=Int.emod_nonneg x (Int.ne_of_gt (Int.mul_pos hd hc))
 have h1:x % (d * c)<c * d:=by
  rw[Int.mul_comm c d]
  exact Int.emod_lt_of_pos x (Int.mul_pos hd hc)
 generalize x % (d * c)=r at *
 generalize x / (d * c)=a at e
 rw[e,Int.add_mul_ediv_left _ _ (Int.ne_of_gt hd),Int.add_mul_emod_self_left,Int.emod_eq_of_lt (Int.ediv_nonneg h0 (Int.le_of_lt hd)) (Int.ediv_lt_of_lt_mul hd h1)]
end
section
variable{m:Int}{u:Nat}(hu:(m % 65536).toNat=u)
include hu
theorem pJ(y:Nat)(hy:y<65536):Builtin.bitAnd m (y:Int)=((u&&& y:Nat):Int):=by
 have h:=jBp m y 16 (by
    have:(2 ^ 16:Nat)=65536:=by decide
    assumption)
 rw[show ((2 ^ 16:Nat):Int)=65536 by decide,hu] at h
 exact h
theorem oj(i:Nat)(hi:i<16):decide (Builtin.bitAnd m ((2 ^ i:Nat):Int)=((2 ^ i:Nat):Int))=u.testBit i:=by
 have h1:2 ^ i<65536:=by
  have:=Nat.pow_lt_pow_right (a:=2) kD hi
  have e:(2 ^ 16:Nat)=65536:=by decide
  assumption
 rw[pJ hu _ h1,dA]
 have h0:0<2 ^ i:=Nat.pow_pos kD
 generalize 2 ^ i=p at h0
 cases u.testBit i
 ·refine decide_eq_false ?_
  simp;lia
 ·refine decide_eq_true ?_
  simp
theorem two_bit(i j:Nat)(hi:i<16)(hj:j<16)(y:Nat)(hy:y=2 ^ i|||2 ^ j)(jv:¬(2 ^ i=y)/\¬(2 ^ j=y)/\y≠0):decide (Builtin.bitAnd m (y:Int)=(y:Int))=(u.testBit i&&u.testBit j):=by
 have h1:y<2 ^ 16:=by
  rw[hy]
  exact Nat.or_lt_two_pow (Nat.pow_lt_pow_right kD hi) (Nat.pow_lt_pow_right kD hj)
 rw[pJ hu y (by exact h1)]
 conv=>lhs;rw[hy]
 rw[Nat.and_or_distrib_left,dA,dA,<-hy]
 cases u.testBit i <;> cases u.testBit j <;> simp only[Bool.false_eq_true,if_false,if_true,Nat.zero_or,Nat.or_zero,Bool.and_true,Bool.and_false,Bool.and_self]
 ·exact decide_eq_false fun h=>jv.2.2 (by lia)
 ·exact decide_eq_false fun h=>jv.2.1 (by lia)
 ·exact decide_eq_false fun h=>jv.1 (by lia)
 ·exact decide_eq_true (by rw[hy])
theorem jJb:Builtin.bitAnd m 61440=((u / 4096 * 4096:Nat):Int):=by
 have vF:u<65536:=by lia
 have h:=pJ hu 61440 kD
 have e:u&&& 61440=u / 4096 * 4096:=by
  have h1:=Nat.and_div_two_pow (a:=u) (b:=61440) (n:=12)
  have h2:=Nat.and_mod_two_pow (a:=u) (b:=61440) (n:=12)
  have e1:(61440 / 2 ^ 12:Nat)=2 ^ 4 - 1:=by decide
  have e2:(61440 % 2 ^ 12:Nat)=0:=by decide
  rw[e1,Nat.and_two_pow_sub_one_of_lt_two_pow (by
     have:(2 ^ 12:Nat)=4096:=by decide
     have:(2 ^ 4:Nat)=16:=by decide
     lia)] at h1
  rw[e2,Nat.and_zero] at h2
  have:(2 ^ 12:Nat)=4096:=by decide
  rw[this] at h1 h2
  lia
 rw[e] at h
 exact h
omit hu in
theorem oO(i d:Nat)(hd:d=2 ^ i):u.testBit i=decide (u / d % 2=1):=by
 rw[Nat.testBit_eq_decide_div_mod_eq,hd]
theorem xM(d c:Nat)(h0:(d:Int)≠0)(hd:(65536:Int)=d * (2 * c)):m / d % 2=((u / d % 2:Nat):Int):=by
 have e:m=(u:Int)+d * (2 * (c * (m / 65536))):=by
  rw[<-hu,Int.toNat_of_nonneg (Int.emod_nonneg _ kD),<-Int.mul_assoc,<-Int.mul_assoc,Int.mul_assoc (d:Int) 2 c,<-hd]
  exact(Int.emod_add_mul_ediv m 65536).symm
 rw[e,Int.add_mul_ediv_left _ _ h0,Int.add_mul_emod_self_left]
 rfl
end
noncomputable def gD:List (Int×Str):=[(40960,"l"),(49152,"s"),(32768,"-"),(24576,"b"),(16384,"d"),(8192,"c"),(4096,"p")]
theorem jJc:∀t:Fin 16,(match gD.find? (fun q=>decide (((t.val * 4096:Nat):Int)=q.1)) with|some q=>q.2|none=>("?":Str))=chr "?pc?d?b?-?l?s???" ((t.val:Nat):Int):=by decide+kernel
theorem kind_c{m:Int}{u:Nat}(hu:(m % 65536).toNat=u):xr 0 m gD=chr "?pc?d?b?-?l?s???" (m / 4096 % 16):=by
 have vF:u<65536:=by lia
 have h:=jJc ⟨u / 4096,Nat.div_lt_of_lt_mul vF⟩
 have e:m / 4096 % 16=((u / 4096:Nat):Int):=by
  have h0:0<=m % 65536:=Int.emod_nonneg m kD
  rw[Int.natCast_ediv,<-hu,Int.toNat_of_nonneg h0]
  exact(fe m (d:=4096) (c:=16) kD kD).symm
 rw[e,<-h]
 unfold xr rD
 rw[jJb hu]
 simp only[if_true]
 first|done|rfl
theorem one_c{m:Int}{u:Nat}(hu:(m % 65536).toNat=u){idx:Nat}(h0:idx≠0)(i:Nat)(hi:i<16)(y:Int)(hy:y=((2 ^ i:Nat):Int))(c:Str):xr idx m [(y,c)]=if u.testBit i then c else "-":=by
 unfold xr rD
 rw[if_neg h0]
 simp only[h0,if_false]
 rw[hy]
 have h:=oj hu i hi
 cases hb:u.testBit i <;> rw[hb] at h <;> simp only[List.find?,h] <;> rfl
theorem jGe{m:Int}{u:Nat}(hu:(m % 65536).toNat=u){idx:Nat}(h0:idx≠0)(i j:Nat)(hi:i<16)(hj:j<16)(y1 y2 y3:Int)(h2:y2=((2 ^ i:Nat):Int))(h3:y3=((2 ^ j:Nat):Int))(y:Nat)(hy:y=2 ^ i|||2 ^ j)(h1:y1=(y:Int))(jv:¬(2 ^ i=y)/\¬(2 ^ j=y)/\y≠0)(c1 c2 c3:Str):
  xr idx m [(y1,c1),(y2,c2),(y3,c3)]=if u.testBit i then (if u.testBit j then c1 else c2) else (if u.testBit j then c3 else "-"):=by
 unfold xr rD
 rw[if_neg h0]
 simp only[h0,if_false]
 rw[h1,h2,h3]
 have e1:=two_bit hu i j hi hj y hy jv
 have e2:=oj hu i hi
 have e3:=oj hu j hj
 cases hb:u.testBit i <;> cases hc:u.testBit j <;> rw[hb] at e1 e2 <;> rw[hc] at e1 e3 <;> simp only[List.find?,e1,e2,e3] <;> rfl
theorem jGv(a b:Nat)(i:Int)(p:Bool)(h:i=if p then 1 else 0):chr ⟨#[a,b]⟩ i=if p then ⟨#[b]⟩ else ⟨#[a]⟩:=by
 subst h
 cases p <;> rfl
theorem jEe(a b c d:Nat)(i:Int)(p q:Bool)(h:i=(if p then 2 else 0)+(if q then 1 else 0)):chr ⟨#[a,b,c,d]⟩ i=if p then (if q then ⟨#[d]⟩ else ⟨#[c]⟩) else (if q then ⟨#[b]⟩ else ⟨#[a]⟩):=by
 subst h
 cases p <;> cases q <;> rfl
theorem rS:("-r":Str)=⟨#[45,114]⟩:=by decide+kernel
theorem wS:("-w":Str)=⟨#[45,119]⟩:=by decide+kernel
theorem xS:("-xSs":Str)=⟨#[45,120,83,115]⟩:=by decide+kernel
theorem xT:("-xTt":Str)=⟨#[45,120,84,116]⟩:=by decide+kernel
theorem tG:("-":Str)=⟨#[45]⟩/\("r":Str)=⟨#[114]⟩/\("w":Str)=⟨#[119]⟩/\("x":Str)=⟨#[120]⟩/\("s":Str)=⟨#[115]⟩/\("S":Str)=⟨#[83]⟩/\("t":Str)=⟨#[116]⟩/\("T":Str)=⟨#[84]⟩:=by decide+kernel
theorem qg(x:Str)(xs:List Str)(h:xs≠[]):Str.join "" (x::xs)=x++Str.join "" xs:=by
 induction xs using cL with
 |nil=>exact absurd rfl h
 |cons y ys=>
  refine(?_:x++("":Str)++Str.join "" (y::ys)=_)
  rw[show ("":Str)=Str.empty by decide+kernel,Str.append_empty]
theorem e84(x:Int):x % 8 / 4=x / 4 % 2:=fe x (d:=4) (c:=2) kD kD
theorem e82(x:Int):x % 8 / 2 % 2=x / 2 % 2:=by
 rw[show x % 8 / 2=x / 2 % 4 from fe x (d:=2) (c:=4) kD kD]
 exact Int.emod_emod_of_dvd _ kD
theorem e81(x:Int):x % 8 % 2=x % 2:=Int.emod_emod_of_dvd _ kD
section
variable{m:Int}{u:Nat}(hu:(m % 65536).toNat=u)
include hu
omit hu in
theorem bitDec(n:Nat):((n % 2:Nat):Int)=if decide (n % 2=1) then 1 else 0:=by
 rcases Nat.mod_two_eq_zero_or_one n with h|h <;> rw[h] <;> rfl
theorem eX{idx:Nat}(h0:idx≠0)(i:Nat)(hi:i<16)(d:Nat)(hd:d=2 ^ i)(j:Int)(h:j=((u / d % 2:Nat):Int)):xr idx m [((d:Int),"r")]=chr "-r" j:=by
 rw[one_c hu h0 i hi _ (by rw[hd]),rS,jGv 45 114 j (u.testBit i) (by rw[oO i d hd,h];exact bitDec _),tG.1,tG.2.1]
theorem eK{idx:Nat}(h0:idx≠0)(i:Nat)(hi:i<16)(d:Nat)(hd:d=2 ^ i)(j:Int)(h:j=((u / d % 2:Nat):Int)):xr idx m [((d:Int),"w")]=chr "-w" j:=by
 rw[one_c hu h0 i hi _ (by rw[hd]),wS,jGv 45 119 j (u.testBit i) (by rw[oO i d hd,h];exact bitDec _),tG.1,tG.2.2.1]
theorem eI{idx:Nat}(h0:idx≠0)(i k:Nat)(hi:i<16)(hk:k<16)(d e:Nat)(hd:d=2 ^ i)(he:e=2 ^ k)(y:Nat)(hy:y=2 ^ i|||2 ^ k)(jv:¬(2 ^ i=y)/\¬(2 ^ k=y)/\y≠0)(j j':Int)(h:j=((u / d % 2:Nat):Int))(h':j'=((u / e % 2:Nat):Int)):
  xr idx m [((y:Int),"s"),((d:Int),"S"),((e:Int),"x")]=chr "-xSs" (j'+j * 2)/\xr idx m [((y:Int),"t"),((d:Int),"T"),((e:Int),"x")]=chr "-xTt" (j'+j * 2):=by
 have e0:j'+j * 2=(if u.testBit i then 2 else 0)+(if u.testBit k then 1 else 0):=by
  rw[oO i d hd,oO k e he,h,h']
  rcases Nat.mod_two_eq_zero_or_one (u / d) with g|g <;> rcases Nat.mod_two_eq_zero_or_one (u / e) with g'|g' <;> rw[g,g'] <;> rfl
 constructor
 ·rw[jGe hu h0 i k hi hk _ _ _ (by rw[hd]) (by rw[he]) y hy rfl jv,xS,jEe 45 120 83 115 _ (u.testBit i) (u.testBit k) e0,tG.1,tG.2.2.2.1,tG.2.2.2.2.1,tG.2.2.2.2.2.1]
 ·rw[jGe hu h0 i k hi hk _ _ _ (by rw[hd]) (by rw[he]) y hy rfl jv,xT,jEe 45 120 84 116 _ (u.testBit i) (u.testBit k) e0,tG.1,tG.2.2.2.1,tG.2.2.2.2.2.2.1,tG.2.2.2.2.2.2.2]
end
theorem jC8(m:Int):dZ m=wM m:=by
 generalize hu:(m % 65536).toNat=u
 have d2:yd m 2=m / 64 % 8:=by unfold yd;rfl
 have d1:yd m 1=m / 8 % 8:=by unfold yd;rfl
 have d0:yd m 0=m % 8:=by unfold yd;rw[Int.pow_zero,Int.ediv_one]
 have hm:∀a b:Int,0<=a->m / a / b=m / (a * b):=fun a b h=>Int.ediv_ediv_of_nonneg h
 have r1:=eX hu (idx:=1) kD 8 kD 256 kD (yd m 2 / 4) (by rw[d2,e84,hm 64 4 kD];exact(xM hu 256 128 kD kD))
 have r2:=eK hu (idx:=2) kD 7 kD 128 kD (yd m 2 / 2 % 2) (by rw[d2,e82,hm 64 2 kD];exact(xM hu 128 256 kD kD))
 have r3:=(eI hu (idx:=3) kD 11 6 kD kD 2048 64 kD kD 2112 kD kD (m / 512 / 2 ^ 2 % 2) (yd m 2 % 2) (by rw[hm 512 (2 ^ 2) kD];exact(xM hu 2048 16 kD kD)) (by rw[d2,e81];exact(xM hu 64 512 kD kD))).1
 have r4:=eX hu (idx:=4) kD 5 kD 32 kD (yd m 1 / 4) (by rw[d1,e84,hm 8 4 kD];exact(xM hu 32 1024 kD kD))
 have r5:=eK hu (idx:=5) kD 4 kD 16 kD (yd m 1 / 2 % 2) (by rw[d1,e82,hm 8 2 kD];exact(xM hu 16 2048 kD kD))
 have r6:=(eI hu (idx:=6) kD 10 3 kD kD 1024 8 kD kD 1032 kD kD (m / 512 / 2 ^ 1 % 2) (yd m 1 % 2) (by rw[hm 512 (2 ^ 1) kD];exact(xM hu 1024 32 kD kD)) (by rw[d1,e81];exact(xM hu 8 4096 kD kD))).1
 have r7:=eX hu (idx:=7) kD 2 kD 4 kD (yd m 0 / 4) (by rw[d0,e84];exact(xM hu 4 8192 kD kD))
 have r8:=eK hu (idx:=8) kD 1 kD 2 kD (yd m 0 / 2 % 2) (by rw[d0,e82];exact(xM hu 2 16384 kD kD))
 have r9:=(eI hu (idx:=9) kD 9 0 kD kD 512 1 kD kD 513 kD kD (m / 512 / 2 ^ 0 % 2) (yd m 0 % 2) (by rw[hm 512 (2 ^ 0) kD];exact(xM hu 512 64 kD kD)) (by rw[d0,e81,<-Int.ediv_one m];exact(xM hu 1 32768 kD kD))).2
 have hj:dZ m=xr 0 m gD++(xr 1 m [(256,"r")]++(xr 2 m [(128,"w")]++(xr 3 m [(2112,"s"),(2048,"S"),(64,"x")]++(xr 4 m [(32,"r")]++(xr 5 m [(16,"w")]++(xr 6 m [(1032,"s"),(1024,"S"),(8,"x")]++(xr 7 m [(4,"r")]++(xr 8 m [(2,"w")]++xr 9 m [(513,"t"),(512,"T"),(1,"x")])))))))):=by
  refine(?_:Builtin.Str.glued "" [xr 0 m gD,xr 1 m [(256,"r")],xr 2 m [(128,"w")],xr 3 m [(2112,"s"),(2048,"S"),(64,"x")],xr 4 m [(32,"r")],xr 5 m [(16,"w")],xr 6 m [(1032,"s"),(1024,"S"),(8,"x")],xr 7 m [(4,"r")],xr 8 m [(2,"w")],xr 9 m [(513,"t"),(512,"T"),(1,"x")]]=_)
  generalize xr 0 m gD=a0
  generalize xr 1 m [(256,"r")]=a1
  generalize xr 2 m [(128,"w")]=a2
  generalize xr 3 m [(2112,"s"),(2048,"S"),(64,"x")]=a3
  generalize xr 4 m [(32,"r")]=a4
  generalize xr 5 m [(16,"w")]=a5
  generalize xr 6 m [(1032,"s"),(1024,"S"),(8,"x")]=a6
  generalize xr 7 m [(4,"r")]=a7
  generalize xr 8 m [(2,"w")]=a8
  generalize xr 9 m [(513,"t"),(512,"T"),(1,"x")]=a9
  rw[StrLaws.glued_eq_join,qg _ _ (by simp),qg _ _ (by simp),qg _ _ (by simp),qg _ _ (by simp),qg _ _ (by simp),qg _ _ (by simp),qg _ _ (by simp),qg _ _ (by simp),qg _ _ (by simp)]
  rfl
 rw[hj,kind_c hu]
 have hl:wM m=chr "?pc?d?b?-?l?s???" (m / 4096 % 16)++(chr "-r" (yd m 2 / 4)++(chr "-w" (yd m 2 / 2 % 2)++(chr "-xSs" (yd m 2 % 2+m / 512 / 2 ^ 2 % 2 * 2)++(chr "-r" (yd m 1 / 4)++(chr "-w" (yd m 1 / 2 % 2)++(chr "-xSs" (yd m 1 % 2+m / 512 / 2 ^ 1 % 2 * 2)++(chr "-r" (yd m 0 / 4)++(chr "-w" (yd m 0 / 2 % 2)++chr "-xTt" (yd m 0 % 2+m / 512 / 2 ^ 0 % 2 * 2))))))))):=by
  unfold wM zH
  rw[if_neg (show¬(2:Nat)=0 by decide),if_neg (show¬(1:Nat)=0 by decide),if_pos rfl]
  simp only[Str.append_assoc]
 rw[hl,<-r1,<-r2,<-r3,<-r4,<-r5,<-r6,<-r7,<-r8,<-r9]
 rfl
noncomputable def idxs(c:Nat):Nat->List Nat->List Nat
 |_,[]=>[]
 |k,a::l=>if a=c then k::idxs c (k+1) l else idxs c (k+1) l
theorem qw(c:Nat):∀(l1 l2:List Nat) (k:Nat),idxs c k (l1++l2)=idxs c k l1++idxs c (k+l1.length) l2
 |[],l2,k=>rfl
 |a::l1,l2,k=>by
  have ih:=qw c l1 l2 (k+1)
  have e:k+1+l1.length=k+(a::l1).length:=by rw[List.length_cons];simp+arith only
  rw[e] at ih
  have u:∀l,idxs c k (a::l)=if a=c then k::idxs c (k+1) l else idxs c (k+1) l:=fun l=>rfl
  rw[List.cons_append,u,u,ih]
  split <;> rfl
theorem zi(c:Nat):∀(l:List Nat) (k:Nat),c∉l->idxs c k l=[]
 |[],_,_=>rfl
 |a::l,k,h=>by
  refine(if_neg (fun e:a=c=>h (by rw[e];exact jk))).trans (zi c l (k+1) fun hm=>h (qO _ hm))
theorem jIz(x:Str)(c limit:Nat)(l:List Nat):∀(k free:Nat) (fd:Array Nat),x.cps.toList.drop k=l->free<=k->
  (forIn (List.range' k (x.length+1 - k)) (fd,free) (StrLaws.occBody x ⟨#[c]⟩ x.length limit)).run.fst.toList=fd.toList++(idxs c k l).take (limit - fd.size):=by
 induction l with
 |nil=>
  intro k free fd hd hf
  have hk:x.length<=k:=by
   have:=List.drop_eq_nil_iff.mp hd
   simpa [Str.length] using this
  have hn:∀(l:List Nat) (fr:Nat),(∀i∈l,x.length<=i)->(forIn l (fd,fr) (StrLaws.occBody x ⟨#[c]⟩ x.length limit)).run.fst=fd:=by
   intro l
   induction l with
   |nil=>intro fr _;rfl
   |cons i l ih=>
    intro fr h
    rw[List.forIn_cons]
    unfold StrLaws.occBody
    have hi:=h i jk
    rw[if_neg (fun hh=>by
     have:=hh.1.2
     have e:(⟨#[c]⟩:Str).length=1:=rfl
     rw[e] at this;lia)]
    exact ih fr fun j hj=>h j (qO _ hj)
  rw[hn _ _ fun i hi=>by have:=List.mem_range'_1.mp hi;lia]
  refine(?_:_=fd.toList++List.take _ [])
  rw[List.take_nil,List.append_nil]
 |cons a l ih=>
  intro k free fd hd hf
  have hk:k<x.cps.toList.length:=by
   refine Nat.lt_of_not_le fun h=> ?_
   rw[List.drop_of_length_le h] at hd;cases hd
  have hlen:x.length=x.cps.toList.length:=by simp[Str.length]
  have hget:x.cps.toList[k]? =some a:=by
   have:=congrArg (·[0]?) hd
   simpa using this
  have hd2:x.cps.toList.drop (k+1)=l:=by
   have:=congrArg List.tail hd
   simpa using this
  rw[show x.length+1 - k=(x.length+1 - (k+1))+1 by lia,List.range'_succ,List.forIn_cons]
  have bq:(k+(⟨#[c]⟩:Str).length<=x.length/\Builtin.Str.subAt x ⟨#[c]⟩ k=true)↔a=c:=by
   rw[StrLaws.subAt_one,hget];simp
  rw[show idxs c k (a::l)=if a=c then k::idxs c (k+1) l else idxs c (k+1) l from rfl]
  unfold StrLaws.occBody
  by_cases e:a=c
  ·rw[if_pos e]
   have h1:=bq.mpr e
   by_cases hs:fd.size<limit
   ·rw[if_pos ⟨⟨⟨hs,hf⟩,h1.1⟩,h1.2⟩]
    refine(ih (k+1) _ (fd.push k) hd2 (by refine(?_:k+1<=k+1);exact Nat.le_refl _)).trans ?_
    rw[Array.toList_push,Array.size_push,show limit - fd.size=(limit - (fd.size+1))+1 by lia,List.take_succ_cons,List.append_assoc]
    rfl
   ·rw[if_neg (fun hh=>hs hh.1.1.1)]
    refine(ih (k+1) _ fd hd2 (cj zA)).trans ?_
    rw[show limit - fd.size=0 by lia]
    simp
  ·rw[if_neg e]
   rw[if_neg (fun hh=>e (bq.mp ⟨hh.1.2,hh.2⟩))]
   exact ih (k+1) _ fd hd2 (cj zA)
theorem om(x:Str)(c lo limit:Nat):Builtin.Str.occurrences x ⟨#[c]⟩ lo x.length limit=(idxs c lo (x.cps.toList.drop lo)).take limit:=by
 rw[StrLaws.occ_eq,jIz x c limit _ lo lo #[] rfl nL]
 simp
noncomputable def codes:Nat->Nat->List Nat
 |0,n=>[48+n % 10]
 |f+1,n=>if n<10 then [48+n] else codes f (n / 10)++[48+n % 10]
theorem zb:∀(f n:Nat),n<10 ^ (f+1)->NumText.AllDigits (codes f n)/\NumText.digitsVal (codes f n)=n/\(codes f n).length<=f+1/\(codes f n≠[])/\((codes f n).length=1\/∃c r,codes f n=c::r/\49<=c)/\(0<n->∃c r,codes f n=c::r/\49<=c)
 |0,n,h=>by
  have h:n<10:=by exact h
  refine⟨?_,?_,Nat.le_refl 1,List.cons_ne_nil _ _,.inl rfl,fun h0=>⟨_,_,rfl,by lia⟩⟩
  ·intro c hc;(replace hc:=j4.mp hc);lia
  ·refine(?_:0 * 10+(48+n % 10 - 48)=n);lia
 |f+1,n,h=>by
  rw[show codes (f+1) n=if n<10 then [48+n] else codes f (n / 10)++[48+n % 10] from rfl]
  by_cases e:n<10
  ·rw[if_pos e]
   refine⟨?_,?_,by first|with_reducible rfl|simp,by first|with_reducible rfl|simp,.inl rfl,fun h0=>⟨_,_,rfl,by lia⟩⟩
   ·intro c hc;(replace hc:=j4.mp hc);lia
   ·refine(?_:0 * 10+(48+n - 48)=n);lia
  ·rw[if_neg e]
   have hp:10 ^ (f+1+1)=10 * 10 ^ (f+1):=by rw[Nat.pow_succ];simp+arith only
   refine pB (zb f (n / 10) (by lia)) fun h1 h2 h3 h4 h5 h6=> ?_
   refine qU (h6 (by lia)) fun c r e6 g6=> ?_
   refine⟨?_,?_,by first|with_reducible rfl|simp;assumption,by simp,.inr ⟨c,r++[48+n % 10],by rw[e6];rfl,g6⟩,fun _=>⟨c,r++[48+n % 10],by rw[e6];rfl,g6⟩⟩
   ·intro c hc
    rcases jq.mp hc with hc|hc
    ·exact h1 c hc
    ·replace hc:=j4.mp hc;lia
   ·rw[NumText.digitsVal_snoc,h2];lia
theorem jAd(f n:Nat)(h:n<10 ^ (f+1)):Nat.toDigits 10 n=(codes f n).map Char.ofNat:=by
 refine pB (zb f n h) fun h1 h2 h3 h4 h5 h6=> ?_
 have hl:(codes f n).length=((codes f n).length - 1)+1:=by
  have:=List.length_pos_iff.mpr h4
  lia
 have:=NumText.toDigits_digitsVal ((codes f n).length - 1) (codes f n) hl h1 (h5.imp (fun e=>by lia) id)
 rw[h2] at this
 exact this
theorem toNat_ofNat{cs:List Nat}(h:NumText.AllDigits cs):(cs.map Char.ofNat).map Char.toNat=cs:=by
 rw[List.map_map]
 refine(List.map_congr_left fun c hc=> ?_).trans (List.map_id _)
 have:=h c hc
 have hv:c.isValidChar:= .inl (by lia)
 refine(?_:(Char.ofNat c).toNat=c)
 simp[Char.ofNat,hv,Char.ofNatAux]
noncomputable def tx(m:Int):Str:=Str.ofString (toString m)
theorem tx_nat(n:Nat)(h:n<10 ^ 10):(tx (n:Int)).cps.toList=codes 9 n:=by
 obtain⟨h1,_⟩:=zb 9 n h
 unfold tx
 rw[Str.ofString_eq_toList]
 refine(?_:(((toString (n:Int)).toList.map Char.toNat).toArray).toList=_)
 rw[List.toList_toArray]
 have:toString (n:Int)=String.ofList (Nat.toDigits 10 n):=rfl
 rw[this,String.toList_ofList,jAd 9 n h,toNat_ofNat h1]
theorem tx_neg(n:Nat)(h:n+1<10 ^ 10):(tx (Int.negSucc n)).cps.toList=45::codes 9 (n+1):=by
 obtain⟨h1,_⟩:=zb 9 (n+1) h
 unfold tx
 rw[Str.ofString_eq_toList]
 refine(?_:(((toString (Int.negSucc n)).toList.map Char.toNat).toArray).toList=_)
 rw[List.toList_toArray]
 have:toString (Int.negSucc n)="-"++String.ofList (Nat.toDigits 10 (n+1)):=rfl
 rw[this,String.toList_append,List.map_append,jAd 9 (n+1) h,String.toList_ofList (l:=(codes 9 (n+1)).map Char.ofNat),toNat_ofNat h1]
 rfl
theorem pF{m:Int}(h:m.natAbs<10 ^ 9):(∀c∈(tx m).cps.toList,c=45\/(48<=c/\c<=57))/\(tx m).length<=11/\1<=(tx m).length/\PySem.intText? (tx m)=some m:=by
 have hp:10 ^ 9<10 ^ 10:=by decide
 have hlen:∀x:Str,x.length=x.cps.toList.length:=fun x=>by simp[Str.length]
 induction m using cI with
 |ofNat n=>
  have h:n<10 ^ 9:=h
  have e:=tx_nat n (oC zA zA)
  refine pB (zb 9 n (oC zA zA)) fun h1 h2 h3 h4 h5 h6=> ?_
  have ku:=List.length_pos_iff.mpr h4
  have e':(tx (Int.ofNat n)).cps.toList=codes 9 n:=e
  have hl:=hlen (tx (Int.ofNat n))
  rw[e'] at hl
  refine⟨fun c hc=> .inr (h1 c (e'▸hc)),by (first|assumption|lia),by lia,?_⟩
  rw[PySem.intText_digits (by rw[e'];exact h1) (by rw[e'];exact h4) (by lia),e',h2];rfl
 |negSucc n=>
  have h:n+1<10 ^ 9:=h
  have e:=tx_neg n (oC zA zA)
  refine pB (zb 9 (n+1) (oC zA zA)) fun h1 h2 h3 h4 h5 h6=> ?_
  have hl:=hlen (tx (Int.negSucc n))
  rw[e] at hl
  simp only[List.length_cons] at hl
  refine⟨fun c hc=> ?_,by (first|assumption|lia),by lia,?_⟩
  ·rw[e] at hc
   rcases j0.mp hc with rfl|hc
   ·exact .inl rfl
   ·exact .inr (h1 c hc)
  ·rw[PySem.intText_neg e h1 h4 (by lia),h2];rfl
noncomputable def dR:List Nat:=[50,50,57,32,105,116,32,108,105,101,115,32,97,116,32,40]
noncomputable def oE:List Nat:=[41,32,40,124,124,124,55,124,41]
theorem preS:("229 it lies at (":Str)=⟨dR.toArray⟩:=by decide+kernel
theorem sufS:(") (|||7|)":Str)=⟨oE.toArray⟩:=by decide+kernel
noncomputable def oF(c:Nat)(ds:List Nat):List Nat:=dR++([c,c,c]++(ds++([c]++oE)))
noncomputable def xP(c:Nat)(ds:List Nat):Str:=⟨(oF c ds).toArray⟩
structure Mk(c:Nat)(ds:List Nat):Prop where
 c40:c<128
 c41:c≠41
 dg:∀d∈ds,d=45\/(48<=d/\d<=57)
 cd:c∉ds
 len:ds.length<=11
section
variable{c:Nat}{ds:List Nat}(h:Mk c ds)
include h
theorem Mk.n41:41∉ds:=fun hm=>by have:=h.dg _ hm;lia
end
theorem yH(c:Nat)(ds:List Nat):(xP c ds).cps.toList=oF c ds:=by unfold xP;(first|with_reducible rfl|simp)
theorem gJ(c:Nat)(ds:List Nat):(xP c ds).length=ds.length+29:=by
 refine(?_:(oF c ds).toArray.size=_)
 unfold oF dR oE
 simp
theorem jIs{c:Nat}{ds:List Nat}:Txt.find (xP c ds) "("=15:=by
 unfold Txt.find
 have e:("(":Str)=⟨#[40]⟩:=by decide+kernel
 rw[e,om,yH,List.drop_zero]
 unfold oF
 rw[qw]
 rfl
theorem jHg{c:Nat}{ds:List Nat}(h:Mk c ds):Builtin.Str.occurrences (xP c ds) ")" 16 (xP c ds).length 1=[20+ds.length]:=by
 have e:(")":Str)=⟨#[41]⟩:=by decide+kernel
 rw[e,om,yH]
 have e2:(oF c ds).drop 16=[c,c,c]++(ds++([c]++oE)):=rfl
 have hc:=h.c41
 rw[e2,qw,zi 41 [c,c,c] _ (by simp;lia),qw,zi 41 ds _ h.n41,qw,zi 41 [c] _ (by simp;lia)]
 refine(?_:(idxs 41 (16+3+ds.length+1) oE).take 1=_)
 rw[show 16+3+ds.length+1=20+ds.length by simp+arith only]
 unfold oE idxs
 rw[if_pos rfl]
 rfl
theorem jHf{c:Nat}{ds:List Nat}:(xP c ds).cps[16]? =some c:=by
 rw[<-Array.getElem?_toList,yH];rfl
theorem jHe{c:Nat}{ds:List Nat}:(xP c ds).cps[19+ds.length]? =some c:=by
 rw[<-Array.getElem?_toList,yH]
 unfold oF
 rw[List.getElem?_append_right (by unfold dR;simp;simp+arith only),List.getElem?_append_right (by unfold dR;simp;lia),List.getElem?_append_right (by unfold dR;simp;lia)]
 have:19+ds.length - dR.length - [c,c,c].length - ds.length=0:=by unfold dR;simp;lia
 rw[this];rfl
noncomputable def xG(c:Nat)(ds:List Nat):List Nat:=[c,c,c]++(ds++[c])
theorem jHd{c:Nat}{ds:List Nat}:Txt.slice (xP c ds) (some 16) (some ((20+ds.length:Nat):Int))=⟨(xG c ds).toArray⟩:=by
 have hl:=gJ c ds
 have h:=slice_closesL (x:=xP c ds) (i:=16) (j:=((20+ds.length:Nat):Int)) kD (by lia) (by lia)
 rw[eq_of_beq h,yH]
 congr 2
 rw[show (16:Int).toNat=16 from rfl,show (((20+ds.length:Nat):Int) - 16).toNat=ds.length+4 by lia]
 have e2:(oF c ds).drop 16=[c,c,c]++(ds++([c]++oE)):=rfl
 rw[e2]
 unfold xG
 have e3:[c,c,c]++(ds++([c]++oE))=([c,c,c]++(ds++[c]))++oE:=by simp
 rw[e3,List.take_append_of_le_length (by simp),List.take_of_length_le (by simp)]
theorem jDv{c:Nat}{ds:List Nat}:Txt.slice (xP c ds) none (some 3)="229":=by
 have hl:=gJ c ds
 have h:=slice_closes_toL (x:=xP c ds) (j:=3) kD (by lia)
 rw[eq_of_beq h,yH]
 have:("229":Str)=⟨#[50,50,57]⟩:=by decide+kernel
 rw[this]
 rfl
theorem mid_occ{c:Nat}{ds:List Nat}(h:Mk c ds):Builtin.Str.occurrences ⟨(xG c ds).toArray⟩ ⟨#[c]⟩ 0 (⟨(xG c ds).toArray⟩:Str).length ((⟨(xG c ds).toArray⟩:Str).length+1)=[0,1,2,3+ds.length]:=by
 rw[om]
 have e:(xG c ds).toArray.toList=[c,c,c]++(ds++[c]):=by simp[xG]
 refine(?_:(idxs c 0 ((xG c ds).toArray.toList.drop 0)).take _=_)
 rw[e,List.drop_zero,qw,qw,zi c ds _ h.cd]
 refine(?_:((idxs c 0 [c,c,c])++([]++idxs c (0+3+ds.length) [c])).take _=_)
 have e1:idxs c 0 [c,c,c]=[0,1,2]:=by
  refine(if_pos rfl).trans (congrArg _ ((if_pos rfl).trans (congrArg _ (if_pos rfl))))
 have e2:idxs c (0+3+ds.length) [c]=[3+ds.length]:=(if_pos rfl).trans (by rw[Nat.zero_add];rfl)
 rw[e1,e2]
 refine List.take_of_length_le ?_
 refine(?_:4<=(xG c ds).toArray.size+1)
 simp[xG]
theorem jHo{c:Nat}{ds:List Nat}(h:Mk c ds):Builtin.Str.partsBetween ⟨(xG c ds).toArray⟩ [0,1,2,3+ds.length] 1=[⟨#[]⟩,⟨#[]⟩,⟨#[]⟩,⟨ds.toArray⟩,⟨#[]⟩]:=by
 have hl:(⟨(xG c ds).toArray⟩:Str).length=4+ds.length:=by
  refine(?_:(xG c ds).toArray.size=_)
  simp[xG];simp+arith only
 unfold Builtin.Str.partsBetween
 rw[hl]
 refine(?_:[Builtin.Str.strSub ⟨(xG c ds).toArray⟩ 0 0,Builtin.Str.strSub ⟨(xG c ds).toArray⟩ 1 1,Builtin.Str.strSub ⟨(xG c ds).toArray⟩ 2 2,Builtin.Str.strSub ⟨(xG c ds).toArray⟩ 3 (3+ds.length),Builtin.Str.strSub ⟨(xG c ds).toArray⟩ (3+ds.length+1) (4+ds.length)]=_)
 have ext:∀{a:Str} {l:List Nat},a.cps.toList=l->a=⟨l.toArray⟩:=fun {a l} e=>by
  cases a;subst e;(first|with_reducible rfl|simp)
 have qQ:∀i j,(Builtin.Str.strSub ⟨(xG c ds).toArray⟩ i j).cps.toList=((xG c ds).drop i).take (j - i):=fun i j=>by
  rw[StrLaws.strSub_toList]
 rw[ext (qQ 0 0),ext (qQ 1 1),ext (qQ 2 2),ext (qQ 3 (3+ds.length)),ext (qQ (3+ds.length+1) (4+ds.length))]
 have e3:((xG c ds).drop 3).take (3+ds.length - 3)=ds:=by
  refine(?_:(ds++[c]).take _=_)
  rw[List.take_append_of_le_length (by lia),List.take_of_length_le (by lia)]
 have e4:((xG c ds).drop (3+ds.length+1)).take (4+ds.length - (3+ds.length+1))=[]:=by
  rw[show 4+ds.length - (3+ds.length+1)=0 by lia];rfl
 rw[e3,e4]
 simp
theorem jI3{c:Nat}{ds:List Nat}(h:Mk c ds):Builtin.Str.strKind ⟨(xG c ds).toArray⟩=1/\Builtin.Str.strKind ⟨#[c]⟩=1:=by
 have hc:=h.c40
 constructor
 ·unfold Builtin.Str.strKind
  rw[if_pos]
  refine(?_:(xG c ds).toArray.all (fun x=>decide (x<256))=true)
  rw[Array.all_eq_true_iff_forall_mem]
  intro x hx
  have hx:x∈xG c ds:=by simpa using hx
  unfold xG at hx
  simp only[List.mem_append,List.mem_cons,List.not_mem_nil,or_false] at hx
  refine decide_eq_true ?_
  rcases hx with hx|hx|hx
  ·lia
  ·have:=h.dg x hx;lia
  ·lia
 ·unfold Builtin.Str.strKind
  rw[if_pos]
  refine(?_:(#[c]).all (fun x=>decide (x<256))=true)
  simp;exact(ta zA zD)
section
variable{fns:List (Str×Fn)}{glob:xO}{k:Bool}{sc jS:Scope}{l:jQ}{lp:Loc}{a b e1 e2:Expr}{n m:Nat}{p p1 p2 pg ap cp:Pos}{x y d z:D}
theorem jG0{e:Expr}{s:Str}{i:Int}(h1:(ev fns glob n).E k sc lp a=some (.str s))(h2:(ev fns glob n).E k sc lp e=some (.int i))(h3:s.length<=lim):(ev fns glob (n+1)).E k sc lp (.Subscript a (.Slice none (some e) none p1) p)=some (.str (Txt.slice s none (some i))):=by
 refine(gE h1 rfl (yI h2) rfl).trans ?_
 refine(?_:(if (none:Option Int)=none/\s.length<=lim then some (D.str (Txt.slice s none (some i))) else none)=_)
 rw[if_pos ⟨rfl,h3⟩]
theorem jJ5{e e':Expr}{s:Str}{i j:Int}(h1:(ev fns glob n).E k sc lp a=some (.str s))(h2:(ev fns glob n).E k sc lp e=some (.int i))(h2':(ev fns glob n).E k sc lp e'=some (.int j))(h3:s.length<=lim):(ev fns glob (n+1)).E k sc lp (.Subscript a (.Slice (some e) (some e') none p1) p)=some (.str (Txt.slice s (some i) (some j))):=by
 refine(gE h1 (yI h2) (yI h2') rfl).trans ?_
 refine(?_:(if (none:Option Int)=none/\s.length<=lim then some (D.str (Txt.slice s (some i) (some j))) else none)=_)
 rw[if_pos ⟨rfl,h3⟩]
theorem S_raise{c:Str}(h1:c="error_reply"\/c="error_proto")(h2:sc.names.lookup c=some .globalImplicit)(h3:PySem.W.isStarred a=false)(h:(ev fns glob n).E k sc (jV l) a=some d):(ev fns glob (n+1)).S k sc l (.Raise (some (.Call (.Name c p1) [a] [] p2)) none p)=some (.exc c d,l):=by
 refine(?_:(if (c≠"error_reply"/\c≠"error_proto")\/sc.names.lookup c≠some .globalImplicit\/PySem.W.isStarred a=true then none else ((ev fns glob n).E k sc (jV l) a).map fun d=>(Fl.exc c d,l))=_)
 rw[if_neg,h]
 ·rfl
 ·rw[h2,h3]
  rintro (⟨g1,g2⟩|h|h)
  ·rcases h1 with e|e
   ·exact g1 e
   ·exact g2 e
  ·exact h rfl
  ·exact zf h
theorem E_meth2{f:Str}(h1:zM a=false)(h2:(ap.endLine==cp.line)=true)(h3:f≠"replace")(hs:PySem.W.isStarred e1=false)(z6:PySem.W.isStarred e2=false)(ho:(ev fns glob n).E k sc lp a=some x)(ha:(ev fns glob n).E k sc lp e1=some y)(fG:(ev fns glob n).E k sc lp e2=some z)(hb:kC x f [y,z]=some d):
  (ev fns glob (n+1)).E k sc lp (.Call (.Attribute a f ap) [e1,e2] [] cp)=some d:=jDs h1 h2 h3 (Nat.le_of_ble_eq_true rfl) (Nat.succ_ne_zero _) ho (xk hs ha (uE z6 fG)) hb
theorem jDu{o:Option (Fl×jQ)}(h:o.bind qB=some d):∃l',o=some (.ret d,l'):=by
 refine bE h ?_;rintro ⟨f,l'⟩ h1 h2
 induction f using cF with
 |ret d'=>
  have h2:some d'=some d:=h2
  replace h2:=j6 h2;subst h2
  exact⟨l',h1⟩
 |next=>cases h2
 |brk=>cases h2
 |exc c d=>cases h2
noncomputable def oG:Fn:=fnAt Challenge.pw_oy0159_01 "parse257"
noncomputable def wZ:Fn:=fnAt Challenge.pw_oy0159_01 "parse229"
theorem jIx{x:Str}(h:Txt.slice x none (some 3)≠"257")(hl:x.length<=1000):
  qV (ev jK glob (n+20)) false oG.scope (jA (fun _=>none) "resp" (B.val (.str x))) oG.body=some (.exc "error_reply" (.str x),jA (fun _=>none) "resp" (B.val (.str x))):=by
 have jw:lim=1000000:=rfl
 refine(?_:qV (ev jK glob (n+20)) false oG.scope _ (.If (.Compare (.Subscript (.Name _ _) _ _) [_] [_] _) [.Raise (some (.Call (.Name _ _) [_] [] _)) none _] [] _::_)=_)
 refine jGz ((xu (c:=true) ?_).trans (jGz (S_raise (.inl rfl) kR kR kR)))
 refine(j5 kR (x:= .str (Txt.slice x none (some 3))) (y:= .str "257") (jG0 kR kR j8) kR (jZ.str.ne kD _ _)).trans ?_
 rw[decide_eq_false h];rfl
theorem p229_ok{c:Nat}{m:Int}(h:Mk c (tx m).cps.toList)(hm:m.natAbs<10 ^ 9):∃l',
  qV (ev jK glob (n+20)) false wZ.scope (jA (jA (fun _=>none) "peer" (B.val xD)) "resp" (B.val (.str (xP c (tx m).cps.toList)))) wZ.body=some (.ret (.tup [.str "peer",.int m]),l'):=by
 have jw:lim=1000000:=rfl
 refine ug (pF hm) fun t1 t2 t3 t4=> ?_
 have wq:(tx m).cps.toList.length=(tx m).length:=by simp[Str.length]
 have hlen:=gJ c (tx m).cps.toList
 have htx:tx m=⟨(tx m).cps.toList.toArray⟩:=by first|with_reducible rfl|simp
 generalize hd:(tx m).cps.toList=ds at h wq hlen htx
 have f1:=jIs (c:=c) (ds:=ds)
 have f2:=jHg h
 have f3:=jHf (c:=c) (ds:=ds)
 have f4:=jHe (c:=c) (ds:=ds)
 have f5:=jHd (c:=c) (ds:=ds)
 have f6:=jDv (c:=c) (ds:=ds)
 generalize hx:xP c ds=x at f1 f2 f3 f4 f5 f6 hlen
 have um:jA (jA (fun _=>none) "peer" (B.val xD)) "resp" (B.val (.str x)) "resp"=some (B.val (.str x)):=jI
 have hp0:jA (jA (fun _=>none) "peer" (B.val xD)) "resp" (B.val (.str x)) "peer"=some (B.val xD):=(sN).trans jI
 generalize hl:jA (jA (fun _=>none) "peer" (B.val xD)) "resp" (B.val (.str x))=l at um hp0
 refine jDu ?_
 refine(?_:(qV (ev jK glob (n+20)) false wZ.scope l [.If (.Compare (.Subscript (.Name _ _) _ _) [_] [_] _) _ [] _,.Assign [_] _ _,.If _ _ [] _,.Assign [_] _ _,.If _ _ [] _,.If (.Compare (.Subscript _ (.BinOp _ _ _ _) _) [_] [.Subscript _ (.BinOp _ _ _ _) _] _) _ [] _,.Assign [_] (.Call (.Attribute (.Subscript _ _ _) _ _) [.Subscript _ (.BinOp _ _ _ _) _] [] _) _,.If (.Compare (.Call (.Name _ _) [_] [] _) [_] [_] _) _ [] _,.Assign [_] (.Subscript _ _ _) _,.Assign [_] (.Call (.Name _ _) [.Subscript _ _ _] [] _) _,.Return (some (.Tuple _ _ _)) _]).bind qB=_)
 have rL:∀{l':jQ} {q:Pos} {j:Nat},l' "resp"=some (B.val (.str x))->(ev jK glob (j+1)).E false wZ.scope (jV l') (.Name "resp" q)=some (.str x):=fun h=>jD kR kR (jE h)
 have fi:∀{l':jQ} {q:Pos} {j:Nat},l' "resp"=some (B.val (.str x))->(ev jK glob (j+1)).E false wZ.scope (qx l') (.Name "resp" q)=some (.str x):=fun h=>jD kR kR (jP h)
 refine qD ((xu (c:=false) ((j5 kR (x:= .str "229") (y:= .str "229") ((jG0 (fi um) kR (by lia)).trans (by rw[f6])) kR (jZ.str.ne kD _ _)).trans ?_)).trans jW) ?_
 ·simp
 refine qD (jT (d:= .int 15) (oW (x:= .str x) (y:= .str "(") kR kR kD kR (rL um) kR ?_) kR kR) ?_
 ·refine(?_:some (D.int (Txt.find x "("))=_)
  rw[f1]
 have wu:jA l "left" (B.val (.int 15)) "resp"=some (B.val (.str x)):=(sN).trans um
 have sG:jA l "left" (B.val (.int 15)) "peer"=some (B.val xD):=(sN).trans hp0
 have bL:jA l "left" (B.val (.int 15)) "left"=some (B.val (.int 15)):=jI
 generalize jA l "left" (B.val (.int 15))=l1 at wu sG bL
 have pN:∀{l':jQ} {q:Pos} {j:Nat},l' "left"=some (B.val (.int 15))->(ev jK glob (j+1)).E false wZ.scope (jV l') (.Name "left" q)=some (.int 15):=fun h=>jD kR kR (jE h)
 have hleftA:∀{l':jQ} {q:Pos} {j:Nat},l' "left"=some (B.val (.int 15))->(ev jK glob (j+1)).E false wZ.scope (qx l') (.Name "left" q)=some (.int 15):=fun h=>jD kR kR (jP h)
 refine qD ((xu (c:=false) (j5 kR (x:= .int 15) (y:= .int 0) (hleftA bL) kR kR)).trans jW) ?_
 refine qD (jT (d:= .int ((20+ds.length:Nat):Int)) (E_meth2 (x:= .str x) (y:= .str ")") (z:= .int 16) kR kR kD kR kR (rL wu) kR (j7 (x:= .int 15) (y:= .int 1) (pN bL) kR kR) ?_) kR kR) ?_
 ·refine(?_:some (D.int (match Builtin.Str.occurrences x ")" (fromIndex x.length 16) x.length 1 with|k::_=>(k:Int)|[]=> -1))=_)
  rw[show fromIndex x.length 16=16 from rfl,f2]
 have hl2:jA l1 "right" (B.val (.int ((20+ds.length:Nat):Int))) "resp"=some (B.val (.str x)):=(sN).trans wu
 have aM:jA l1 "right" (B.val (.int ((20+ds.length:Nat):Int))) "peer"=some (B.val xD):=(sN).trans sG
 have tS:jA l1 "right" (B.val (.int ((20+ds.length:Nat):Int))) "left"=some (B.val (.int 15)):=(sN).trans bL
 have sE:jA l1 "right" (B.val (.int ((20+ds.length:Nat):Int))) "right"=some (B.val (.int ((20+ds.length:Nat):Int))):=jI
 generalize jA l1 "right" (B.val (.int ((20+ds.length:Nat):Int)))=l2 at hl2 aM tS sE
 refine qD ((xu (c:=false) (j5 kR (x:= .int ((20+ds.length:Nat):Int)) (y:= .int 0) (jD kR kR (jP sE)) kR ?_)).trans jW) ?_
 ·refine(?_:some (decide (((20+ds.length:Nat):Int)<0))=_)
  rw[decide_eq_false (by lia)]
 refine qD ((xu (c:=false) ((j5 kR (x:= .str ⟨#[c]⟩) (y:= .str ⟨#[c]⟩) (je kR (x:= .str x) (y:= .int 16) (fi hl2) (j7 (x:= .int 15) (y:= .int 1) (hleftA tS) kR kR) ?_) (je kR (x:= .str x) (y:= .int ((19+ds.length:Nat):Int)) (fi hl2) (j7 (x:= .int ((20+ds.length:Nat):Int)) (y:= .int 1) (jD kR kR (jP sE)) kR ?_) ?_) (jZ.str.ne kD _ _)).trans ?_)).trans jW) ?_
 ·refine(?_:(if x.length<=lim then (idx? 16 x.length).bind fun k=>(x.cps[k]?).map fun c=>D.str ⟨#[c]⟩ else none)=_)
  rw[if_pos (by lia)]
  unfold idx?
  rw[if_pos kD,if_pos (by lia)]
  refine(?_:(x.cps[16]?).map (fun c=>D.str ⟨#[c]⟩)=_)
  rw[f3];rfl
 ·refine(?_:some (D.int (((20+ds.length:Nat):Int) - 1))=_)
  congr 2;lia
 ·refine(?_:(if x.length<=lim then (idx? ((19+ds.length:Nat):Int) x.length).bind fun k=>(x.cps[k]?).map fun c=>D.str ⟨#[c]⟩ else none)=_)
  rw[if_pos (by lia)]
  unfold idx?
  rw[if_pos (by lia),if_pos (by lia)]
  refine(?_:(x.cps[19+ds.length]?).map (fun c=>D.str ⟨#[c]⟩)=_)
  rw[f4];rfl
 ·simp
 refine qD (jT (d:=jC [⟨#[]⟩,⟨#[]⟩,⟨#[]⟩,⟨ds.toArray⟩,⟨#[]⟩]) (oW (x:= .str ⟨(xG c ds).toArray⟩) (y:= .str ⟨#[c]⟩) kR kR kD kR ((jJ5 (i:=16) (j:=((20+ds.length:Nat):Int)) (rL hl2) (j7 (x:= .int 15) (y:= .int 1) (pN tS) kR kR) (jD kR kR (jE sE)) (by lia)).trans (by rw[f5])) (je kR (x:= .str x) (y:= .int 16) (rL hl2) (j7 (x:= .int 15) (y:= .int 1) (pN tS) kR kR) ?_) ?_) kR kR) ?_
 ·refine(?_:(if x.length<=lim then (idx? 16 x.length).bind fun k=>(x.cps[k]?).map fun c=>D.str ⟨#[c]⟩ else none)=_)
  rw[if_pos (by lia)]
  unfold idx?
  rw[if_pos kD,if_pos (by lia)]
  refine(?_:(x.cps[16]?).map (fun c=>D.str ⟨#[c]⟩)=_)
  rw[f3];rfl
 ·have hml:(⟨(xG c ds).toArray⟩:Str).length=4+ds.length:=by
   refine(?_:(xG c ds).toArray.size=_)
   simp[xG];simp+arith only
  obtain⟨k1,k2⟩:=jI3 h
  have ho:=mid_occ h
  have hpq:=jHo h
  generalize (⟨(xG c ds).toArray⟩:Str)=y at hml k1 ho hpq
  have ic:(⟨#[c]⟩:Str).length=1:=rfl
  refine(?_:(if (⟨#[c]⟩:Str).length=1/\y.length<=1000/\(decide (y.length<(⟨#[c]⟩:Str).length)||decide (Builtin.Str.strKind y<Builtin.Str.strKind ⟨#[c]⟩))=false/\(Builtin.Str.occurrences y ⟨#[c]⟩ 0 y.length (y.length+1)).isEmpty=false/\(Builtin.Str.partsBetween y (Builtin.Str.occurrences y ⟨#[c]⟩ 0 y.length (y.length+1)) (⟨#[c]⟩:Str).length).length<=1000 then some (D.list ((Builtin.Str.partsBetween y (Builtin.Str.occurrences y ⟨#[c]⟩ 0 y.length (y.length+1)) (⟨#[c]⟩:Str).length).map .str)) else none)=_)
  have hle:=h.len
  rw[ho,ic,hpq,if_pos ⟨rfl,by lia,by rw[k1,k2];simp;lia,rfl,by simp⟩]
  rfl
 have hp3:jA l2 "parts" (B.val (jC [⟨#[]⟩,⟨#[]⟩,⟨#[]⟩,⟨ds.toArray⟩,⟨#[]⟩])) "peer"=some (B.val xD):=(sN).trans aM
 have sF:jA l2 "parts" (B.val (jC [⟨#[]⟩,⟨#[]⟩,⟨#[]⟩,⟨ds.toArray⟩,⟨#[]⟩])) "parts"=some (B.val (jC [⟨#[]⟩,⟨#[]⟩,⟨#[]⟩,⟨ds.toArray⟩,⟨#[]⟩])):=jI
 generalize jA l2 "parts" (B.val (jC [⟨#[]⟩,⟨#[]⟩,⟨#[]⟩,⟨ds.toArray⟩,⟨#[]⟩]))=l3 at hp3 sF
 refine qD ((xu (c:=false) (j5 kR (x:= .int 5) (y:= .int 5) (jf (x:=jC [⟨#[]⟩,⟨#[]⟩,⟨#[]⟩,⟨ds.toArray⟩,⟨#[]⟩]) kR kR kD kD kR kR (jD kR kR (jP sF)) kR) kR kR)).trans jW) ?_
 refine qD (jT (d:= .str "peer") (je kR (x:=xD) (y:= .int 0) (jD kR kR (jE hp3)) kR kR) kR kR) ?_
 refine qD (jT (d:= .int m) (jf (x:= .str ⟨ds.toArray⟩) kR kR kD kD kR kR (je kR (x:=jC [⟨#[]⟩,⟨#[]⟩,⟨#[]⟩,⟨ds.toArray⟩,⟨#[]⟩]) (y:= .int 3) (jD kR kR (jE ((sN).trans sF))) kR kR) ?_) kR kR) ?_
 ·rw[<-htx]
  refine(?_:(if (tx m).length<=640 then (PySem.intText? (tx m)).map D.int else none)=_)
  rw[if_pos j8,t4];rfl
 refine kH (wV ?_)
 kernel_rfl
theorem rep_str{c:Nat}(x:Str):((("229 it lies at (":Str)++Txt.mul ⟨#[c]⟩ 3)++x++⟨#[c]⟩++(") (|||7|)":Str))=xP c x.cps.toList:=by
 have hm:Txt.mul ⟨#[c]⟩ 3=⟨#[c,c,c]⟩:=rfl
 rw[hm,preS,sufS]
 have ext:∀{a b:Str},a.cps.toList=b.cps.toList->a=b:=fun {a b} e=>by
  cases a;cases b;congr 1;exact Array.toList_inj.mp e
 refine ext ?_
 rw[yH]
 unfold oF
 have app:∀a b:Str,(a++b).cps.toList=a.cps.toList++b.cps.toList:=fun a b=>by
  refine(?_:(a.cps++b.cps).toList=_)
  simp
 rw[app,app,app,app]
 simp
theorem lens{P M x C S:Str}(hp:P.length=16)(hm:M.length=3)(hc:C.length=1)(hs:S.length=9)(hx:x.length<=11):P.length+M.length<=lim/\(P++M).length+x.length<=lim/\(P++M++x).length+C.length<=lim/\(P++M++x++C).length+S.length<=lim:=by
 have jw:lim=1000000:=rfl
 simp only[StrLen.append,hp,hm,hc,hs]
 exact⟨by decide,xJ (Nat.add_le_add_left hx _) kD,xJ (Nat.add_le_add_right (Nat.add_le_add_left hx _) _) kD,xJ (Nat.add_le_add_right (Nat.add_le_add_right (Nat.add_le_add_left hx _) _) _) kD⟩
noncomputable def y4:Fn:=fnAt Challenge.pw_oy0159_01 "_law_talk"
structure ry(ms:List Int)(mH:List (List Str))(l:jQ)(ts:List Str):Prop where
 talk:l "talk"=some (.own (ts.map .str))
 modes:l "modes"=some (.val (.list (ms.map .int)))
 sp:l "spoiled"=some (.val (.list (mH.map jC)))
theorem zc{k c:Nat}{ms:List Int}{mH:List (List Str)}{ts sp:List Str}{m:Int}(h:ry ms mH l ts)(hk:l "place"=some (.val (.int (k:Int))))(hc:wN (.str "|!x(|") (.int (k:Int))=some (.str ⟨#[c]⟩))(hm:ms[k]? =some m)(hs:mH[k]? =some sp)(hms:ms.length<=100)(bC:mH.length<=100)(iH:ts.length<=1000)(hsp:sp.length<=1000)(ha:m.natAbs<10 ^ 9):
  ∃l',qV (ev jK glob (n+20)) false y4.scope l (xH (qR y4.body 1))=some (.next,l')/\ry ms mH l' (ts++[xP c (tx m).cps.toList]++sp):=by
 have jw:lim=1000000:=rfl
 refine ug (pF ha) fun t1 t2 t3 t4=> ?_
 refine(?_:∃l',qV (ev jK glob (n+20)) false y4.scope l [.Assign [_] (.Subscript _ _ _) _,.Expr (.Call (.Attribute _ _ _) [.BinOp (.BinOp (.BinOp (.BinOp _ _ (.BinOp _ _ _ _) _) _ (.Call (.Name _ _) [.Subscript _ _ _] [] _) _) _ _ _) _ _ _] [] _) _,.Expr (.Call (.Attribute _ _ _) [.Subscript _ _ _] [] _) _]=_/\_)
 have e1:(ev jK glob (n+20)).S false y4.scope l (qR (xH (qR y4.body 1)) 0)=some (.next,jA l "mark" (.val (.str ⟨#[c]⟩))):=
  jT (je kR (x:= .str "|!x(|") (y:= .int (k:Int)) kR (jD kR kR (jE hk)) hc) kR kR
 have g1:ry ms mH (jA l "mark" (.val (.str ⟨#[c]⟩))) ts:=⟨(sN).trans h.talk,(sN).trans h.modes,(sN).trans h.sp⟩
 have g2:jA l "mark" (B.val (.str ⟨#[c]⟩)) "mark"=some (.val (.str ⟨#[c]⟩)):=jI
 have g3:jA l "mark" (B.val (.str ⟨#[c]⟩)) "place"=some (.val (.int (k:Int))):=(sN).trans hk
 generalize jA l "mark" (B.val (.str ⟨#[c]⟩))=l1 at e1 g1 g2 g3
 have pM:∀{q:Pos} {j:Nat},(ev jK glob (j+1)).E false y4.scope (jV l1) (.Name "mark" q)=some (.str ⟨#[c]⟩):=jD kR kR (jE g2)
 have hp16:(("229 it lies at (":Str)).length=16:=by decide
 have hs9:((") (|||7|)":Str)).length=9:=by decide
 have e2:(ev jK glob (n+20)).S false y4.scope l1 (qR (xH (qR y4.body 1)) 1)=some (.next,jA l1 "talk" (.own (ts.map .str++[.str (xP c (tx m).cps.toList)]))):=by
  refine yT g1.talk ?_ kR kR kR kR (by simp;exact j8)
  rw[<-rep_str]
  have hm3:(Txt.mul (⟨#[c]⟩:Str) 3).length=3:=rfl
  have hm1:(⟨#[c]⟩:Str).length=1:=rfl
  have hP:∀{q:Pos} {j:Nat},(ev jK glob (j+1)).E false y4.scope (jV l1) (.Constant (.str "229 it lies at (") 0 q)=some (.str "229 it lies at ("):=rfl
  have hS:∀{q:Pos} {j:Nat},(ev jK glob (j+1)).E false y4.scope (jV l1) (.Constant (.str ") (|||7|)") 0 q)=some (.str ") (|||7|)"):=rfl
  have hM:∀{q q2 q3:Pos} {j:Nat},(ev jK glob (j+2)).E false y4.scope (jV l1) (.BinOp (.Name "mark" q) .Mult (.Constant (.int 3) 0 q2) q3)=some (.str (Txt.mul ⟨#[c]⟩ 3)):=j7 (x:= .str ⟨#[c]⟩) (y:= .int 3) pM (by rfl) kR
  generalize ("229 it lies at (":Str)=P at hp16 hP ⊢
  generalize (") (|||7|)":Str)=S at hs9 hS ⊢
  generalize Txt.mul (⟨#[c]⟩:Str) 3=M at hm3 hM ⊢
  generalize (⟨#[c]⟩:Str)=C at hm1 pM hM ⊢
  refine ug (lens hp16 hm3 hm1 hs9 t2) fun b1 b2 b3 b4=> ?_
  refine j7 (x:= .str (P++M++tx m++C)) (y:= .str S) ?_ hS (yp b4)
  refine j7 (x:= .str (P++M++tx m)) (y:= .str C) ?_ pM (yp b3)
  refine j7 (x:= .str (P++M)) (y:= .str (tx m)) (j7 (x:= .str P) (y:= .str M) hP hM (yp b1)) ?_ (yp b2)
  refine jf (x:= .int m) kR kR kD kD kR kR (je kR (x:= .list (ms.map .int)) (y:= .int (k:Int)) (jD kR kR (jE g1.modes)) (jD kR kR (jE g3)) (qI (by rw[List.getElem?_map,hm];rfl) (by simp;exact j8))) ?_
  refine(?_:(if small m=true then some (D.str (Str.ofString (toString m))) else none)=_)
  rw[if_pos]
  ·rfl
  ·unfold small
   refine decide_eq_true ?_
   have:(10:Nat) ^ 9<2 ^ 60:=by decide
   exact(oC zA zA)
 have k1:jA l1 "talk" (B.own (ts.map .str++[.str (xP c (tx m).cps.toList)])) "talk"=some (.own (ts.map .str++[.str (xP c (tx m).cps.toList)])):=jI
 have k2:jA l1 "talk" (B.own (ts.map .str++[.str (xP c (tx m).cps.toList)])) "modes"=some (.val (.list (ms.map .int))):=(sN).trans g1.modes
 have k3:jA l1 "talk" (B.own (ts.map .str++[.str (xP c (tx m).cps.toList)])) "spoiled"=some (.val (.list (mH.map jC))):=(sN).trans g1.sp
 have k4:jA l1 "talk" (B.own (ts.map .str++[.str (xP c (tx m).cps.toList)])) "place"=some (.val (.int (k:Int))):=(sN).trans g3
 generalize jA l1 "talk" (B.own (ts.map .str++[.str (xP c (tx m).cps.toList)]))=l2 at e2 k1 k2 k3 k4
 have e3:(ev jK glob (n+20)).S false y4.scope l2 (qR (xH (qR y4.body 1)) 2)=some (.next,jA l2 "talk" (.own ((ts.map .str++[.str (xP c (tx m).cps.toList)])++sp.map .str))):=by
  refine jJ4 k1 (je kR (x:= .list (mH.map jC)) (y:= .int (k:Int)) (jD kR kR (jE k3)) (jD kR kR (jE k4)) (qI (d:=jC sp) (by rw[List.getElem?_map,hs];rfl) (by simp;exact j8))) kR kR kR kR (by simp;lia)
 exact⟨_,(jF e1).trans ((jF e2).trans ((jF e3).trans jW)),⟨jI.trans (by simp),(sN).trans k2,(sN).trans k3⟩⟩
noncomputable def qA:List Str:=["a\"b","","z","\"","\"\""]
noncomputable def uu:List Str:=["257 \"a\"\"b\"","257 made","257 \"z\" \"new\"","257 \"\"\"\"","257 \"\"\"\"\"\" made"]
noncomputable def rF(m0 m1 m2 m3 m4:Int)(s0 s1 s2 s3 s4:List Str):List Str:=
 uu++[("226 all told":Str)]++[xP 124 (tx m0).cps.toList]++s0++[xP 33 (tx m1).cps.toList]++s1++[xP 120 (tx m2).cps.toList]++s2++[xP 40 (tx m3).cps.toList]++s3++[xP 124 (tx m4).cps.toList]++s4
theorem jIo{m0 m1 m2 m3 m4:Int}{s0 s1 s2 s3 s4:List Str}(h0:m0.natAbs<10 ^ 9)(h1:m1.natAbs<10 ^ 9)(h2:m2.natAbs<10 ^ 9)(h3:m3.natAbs<10 ^ 9)(h4:m4.natAbs<10 ^ 9)(g0:s0.length<=100)(g1:s1.length<=100)(g2:s2.length<=100)(g3:s3.length<=100)(g4:s4.length<=100):
  (zK jK (ev jK glob (n+25)) "_law_talk" [jC qA,.list ([m0,m1,m2,m3,m4].map .int),.list ([s0,s1,s2,s3,s4].map jC)]).bind qB=some (jC (rF m0 m1 m2 m3 m4 s0 s1 s2 s3 s4)):=by
 refine(?_:(qV (ev jK glob (n+25)) false y4.scope (jA (jA (jA (fun _=>none) "spoiled" (.val (.list ([s0,s1,s2,s3,s4].map jC)))) "modes" (.val (.list ([m0,m1,m2,m3,m4].map .int)))) "names" (.val (jC qA))) y4.body).bind qB=_)
 refine(?_:(qV (ev jK glob (n+25)) false y4.scope _ [_,.For _ (.Call (.Name _ _) [_] [] _) _ [] _,_]).bind qB=_)
 refine qD (zP (ds:=(uu++[("226 all told":Str)]).map .str) kR kR kR kR) ?_
 generalize hl:jA (jA (jA (jA (fun _=>none) "spoiled" (B.val (.list ([s0,s1,s2,s3,s4].map jC)))) "modes" (.val (.list ([m0,m1,m2,m3,m4].map .int)))) "names" (.val (jC qA))) "talk" (.own ((uu++[("226 all told":Str)]).map .str))=l
 have i0:ry [m0,m1,m2,m3,m4] [s0,s1,s2,s3,s4] l (uu++[("226 all told":Str)]):=by
  rw[<-hl]
  exact⟨kR,kR,kR⟩
 clear hl
 have wJ:∀{l:jQ} {ts:List Str} {k:Int},ry [m0,m1,m2,m3,m4] [s0,s1,s2,s3,s4] l ts->ry [m0,m1,m2,m3,m4] [s0,s1,s2,s3,s4] (jA l "place" (.val (.int k))) ts:=fun h=>⟨(sN).trans h.talk,(sN).trans h.modes,(sN).trans h.sp⟩
 have lQ:(uu++[("226 all told":Str)]).length=6:=rfl
 refine jH (zc (glob:=glob) (n:=n+4) (k:=0) (c:=124) (m:=m0) (sp:=s0) (wJ i0) jI kR rfl rfl (by simp) (by simp) kD j8 h0) fun l1 e1 i1=> ?_
 refine jH (zc (glob:=glob) (n:=n+4) (k:=1) (c:=33) (m:=m1) (sp:=s1) (wJ i1) jI kR rfl rfl (by simp) (by simp) (by simp only[List.length_append,List.length_cons,List.length_nil] at lQ ⊢;lia) j8 h1) fun l2 e2 i2=> ?_
 refine jH (zc (glob:=glob) (n:=n+4) (k:=2) (c:=120) (m:=m2) (sp:=s2) (wJ i2) jI kR rfl rfl (by simp) (by simp) (by simp only[List.length_append,List.length_cons,List.length_nil] at lQ ⊢;lia) j8 h2) fun l3 e3 i3=> ?_
 refine jH (zc (glob:=glob) (n:=n+4) (k:=3) (c:=40) (m:=m3) (sp:=s3) (wJ i3) jI kR rfl rfl (by simp) (by simp) (by simp only[List.length_append,List.length_cons,List.length_nil] at lQ ⊢;lia) j8 h3) fun l4 e4 i4=> ?_
 refine jH (zc (glob:=glob) (n:=n+4) (k:=4) (c:=124) (m:=m4) (sp:=s4) (wJ i4) jI kR rfl rfl (by simp) (by simp) (by simp only[List.length_append,List.length_cons,List.length_nil] at lQ ⊢;lia) j8 h4) fun l5 e5 i5=> ?_
 refine qD (we (its:=[.int 0,.int 1,.int 2,.int 3,.int 4]) kR kR (l':=l5) ?_) (kH (wV (jD kR kR ((vc i5.talk).trans ?_))))
 ·exact(jo rfl e1).trans ((jo rfl e2).trans ((jo rfl e3).trans ((jo rfl e4).trans ((jo rfl e5).trans xj))))
 ·rfl
inductive gV (C:Cx) (r:Ev) (fn:Fn) (nw:Str) (ie se:Expr):t9->List Str->t9->Prop
 |nil (a:t9):gV C r fn nw ie se a [] a
 |cons {a b c:t9} {t:Str} {ts:List Str}:y6 C r fn nw ie se a t b->gV C r fn nw ie se b ts c->gV C r fn nw ie se a (t::ts) c
variable{C:Cx}{r:Ev}{fn:Fn}{nw:Str}{ie se:Expr}
theorem gV.append{a b c:t9}{ts us:List Str}(h:gV C r fn nw ie se a ts b)(g:gV C r fn nw ie se b us c):gV C r fn nw ie se a (ts++us) c:=by
 induction h with
 |nil _=>exact g
 |cons s _ ih=>exact .cons s (ih g)
theorem gV.one{a b:t9}{t:Str}(h:y6 C r fn nw ie se a t b):gV C r fn nw ie se a [t] b:= .cons h (.nil _)
theorem gV.fun{a c:t9}{ts:List Str}(h:gV C r fn nw ie se a ts c):∃st:Nat->t9,st 0=a/\st ts.length=c/\∀(j:Nat) (d:D),(ts.map D.str)[j]? =some d->∃t,d= .str t/\y6 C r fn nw ie se (st j) t (st (j+1)):=by
 induction h with
 |nil a=>exact vM (fun _=>a) rfl rfl (fun j d e=>by simp at e)
 | @cons a b c t ts s _ ih=>
   refine xQ ih fun st h0 h1 h2=> ?_;clear ih
   refine vM (fun j=>match j with|0=>a|j+1=>st j) rfl h1 (fun j d e=> ?_)
   induction j using cN with
   |zero=>
    simp at e
    subst e
    refine⟨t,rfl,?_⟩
    refine(?_:y6 C r fn nw ie se a t (st 0))
    rw[h0];exact s
   |succ j=>
    rw[List.map_cons,List.getElem?_cons_succ] at e
    exact h2 j d e
noncomputable def excOf:Fl×jQ->Option (Str×D)
 |(.exc c d,_)=>some (c,d)
 |_=>none
theorem jJp{o:Option (Fl×jQ)}{c:Str}(h:o.bind excOf=some (c,d)):∃l',o=some (.exc c d,l'):=by
 refine bE h ?_;rintro ⟨f,l'⟩ h1 h2
 induction f using cF with
 |exc c' d'=>
  have h2:some (c',d')=some (c,d):=h2
  obtain⟨hA,hB⟩:=Prod.mk.inj (j6 h2);clear h2;subst hA;subst hB
  exact⟨l',h1⟩
 |next=>cases h2
 |brk=>cases h2
 |ret d=>cases h2
end
section
variable{C:Cx}(hf:C.fns=jK){glob:xO}{n:Nat}
include hf
theorem pret257{t x:Str}(h:(qV (ev jK glob (n+25)) false oG.scope (jA (fun _=>none) "resp" (.val (.str t))) oG.body).bind qB=some (.str x)):fU C (ev jK glob (n+25)) "parse257" [.str t] (.str x):=by
 obtain⟨l',e⟩:=jDu h
 exact⟨oG,_,l',by rw[hf];rfl,rfl,e⟩
theorem o9{t:Str}(h:Txt.slice t none (some 3)≠"257")(hl:t.length<=1000):uC C (ev jK glob (n+25)) "parse257" [.str t] "error_reply" t:=
 ⟨oG,_,_,by rw[hf];rfl,rfl,jIx (n:=n+5) h hl⟩
theorem jGn{t c x:Str}(h:(qV (ev jK glob (n+25)) false wZ.scope (jA (jA (fun _=>none) "peer" (.val xD)) "resp" (.val (.str t))) wZ.body).bind excOf=some (c,.str x)):uC C (ev jK glob (n+25)) "parse229" [.str t,xD] c x:=by
 obtain⟨l',e⟩:=jJp h
 exact⟨wZ,_,l',by rw[hf];rfl,rfl,e⟩
theorem pret229{c:Nat}{m:Int}(h:Mk c (tx m).cps.toList)(hm:m.natAbs<10 ^ 9):fU C (ev jK glob (n+25)) "parse229" [.str (xP c (tx m).cps.toList),xD] (.tup [.str "peer",.int m]):=by
 obtain⟨l',e⟩:=p229_ok (glob:=glob) (n:=n+5) h hm
 exact⟨wZ,_,l',by rw[hf];rfl,rfl,e⟩
end
theorem me{c:Nat}{m:Int}(hc:c<128)(h41:c≠41)(h45:c≠45)(hd:¬(48<=c/\c<=57))(hm:m.natAbs<10 ^ 9):Mk c (tx m).cps.toList:=by
 refine ug (pF hm) fun t1 t2 t3 t4=> ?_
 refine⟨hc,h41,t1,fun hh=> ?_,?_⟩
 ·rcases t1 c hh with h|h
  ·exact h45 h
  ·exact hd h
 ·have:(tx m).cps.toList.length=(tx m).length:=by simp[Str.length]
  lia
noncomputable abbrev ie1:Expr:=jCg zU.body
noncomputable abbrev se1:Expr:=jCr zU.body
noncomputable abbrev R1(C:Cx)(glob:xO)(n:Nat):=gV C (ev jK glob (n+25)) zU "waiting" ie1 se1
noncomputable abbrev eH(C:Cx)(glob:xO)(n:Nat):=y6 C (ev jK glob (n+25)) zU "waiting" ie1 se1
section
variable{C:Cx}(hf:C.fns=jK){glob:xO}{n:Nat}
include hf
theorem gB{kvs:xO}{w q:List D}{t x:Str}(h:(qV (ev jK glob (n+25)) false oG.scope (jA (fun _=>none) "resp" (.val (.str t))) oG.body).bind qB=some (.str x))(hw:w.length<=100):eH C glob n (kvs,w,q) t (kvs,w++[.str x],q):=
 .name (pret257 hf h) (by
       have jw:lim=1000000:=rfl
       lia)
theorem vZ{kvs:xO}{w q:List D}{t:Str}(h1:Txt.slice t none (some 3)≠"257")(hl:t.length<=1000)(h:(qV (ev jK glob (n+25)) false wZ.scope (jA (jA (fun _=>none) "peer" (.val xD)) "resp" (.val (.str t))) wZ.body).bind excOf=some (("error_proto":Str),D.str t))(hq:q.length<=100):eH C glob n (kvs,w,q) t (kvs,w,q++[.str t]):=
 .proto (o9 hf h1 hl) (jGn hf h) (by
    have jw:lim=1000000:=rfl
    lia)
theorem jIq{kvs:xO}{w q:List D}{t:Str}(h1:Txt.slice t none (some 3)≠"257")(hl:t.length<=1000)(h:(qV (ev jK glob (n+25)) false wZ.scope (jA (jA (fun _=>none) "peer" (.val xD)) "resp" (.val (.str t))) wZ.body).bind excOf=some (("error_reply":Str),D.str t))(hq:q.length<=100):eH C glob n (kvs,w,q) t (kvs,w,q++[.str (("no ":Str)++t)]):=
 .reply (o9 hf h1 hl) (jGn hf h) (by
    have jw:lim=1000000:=rfl
    lia) (by
    have jw:lim=1000000:=rfl
    lia)
theorem v5{kvs:xO}{w q:List D}{key:Str}{c:Nat}{m:Int}(h:Mk c (tx m).cps.toList)(hm:m.natAbs<10 ^ 9)(hk:kvs.length<=1000)(hw:w.length<=100):eH C glob n (kvs,.str key::w,q) (xP c (tx m).cps.toList) (qt kvs key (.tup [.str "peer",.int m]),w,q):=by
 have jw:lim=1000000:=rfl
 refine .found (o9 hf (by rw[jDv];decide) (by rw[gJ];have:=h.len;lia)) (pret229 hf h hm) (fun l hl=> ?_) (fun l hl=> ?_) hk
 ·refine(?_:(ev jK glob (n+25)).E false zU.scope l (.Subscript (.Name "waiting" _) (.Constant (.int 0) 0 _) _)=_)
  exact je kR (x:= .list (.str key::w)) (y:= .int ((0:Nat):Int)) (jD kR kR hl) kR (qI rfl (by simp;lia))
 ·refine(?_:(ev jK glob (n+25)).E false zU.scope l (.Subscript (.Name "waiting" _) (.Slice (some (.Constant (.int 1) 0 _)) none none _) _)=_)
  exact(E_from (i:=1) (ds:= .str key::w) (jD kR kR hl) kR (by simp;lia))
end
noncomputable def rl:List (List Str):=[["229 at 272)"],["229 at (|||7|x"],["229 at (||7|)","229 at (|||7||)"],["229 at (|||7|!)"]]
noncomputable def zm(k:Nat)(b:Bool):List Str:=if b then rl.getD k [] else []
section
variable{C:Cx}(hf:C.fns=jK){glob:xO}{n:Nat}
include hf
theorem k7{kvs:xO}{w q:List D}(k:Nat)(b:Bool)(hk:k<4)(hq:q.length<=50):R1 C glob n (kvs,w,q) (zm k b) (kvs,w,q++(zm k b).map .str):=by
 induction b using cT with
 |false=>
  refine(?_:R1 C glob n (kvs,w,q) [] (kvs,w,q++[]))
  rw[List.append_nil]
  exact .nil _
 |true=>
  match k,hk with
  |0,_=>exact .one (vZ hf (by decide+kernel) (by decide+kernel) kR j8)
  |1,_=>exact .one (vZ hf (by decide+kernel) (by decide+kernel) kR j8)
  |2,_=>
   refine(?_:R1 C glob n (kvs,w,q) ["229 at (||7|)","229 at (|||7||)"] (kvs,w,q++[.str "229 at (||7|)",.str "229 at (|||7||)"]))
   rw[show q++[D.str "229 at (||7|)",.str "229 at (|||7||)"]=(q++[.str "229 at (||7|)"])++[.str "229 at (|||7||)"] by simp]
   exact .cons (vZ hf (by decide+kernel) (by decide+kernel) kR j8) (.one (vZ hf (by decide+kernel) (by decide+kernel) kR (by simp;exact j8)))
  |3,_=>exact .one (vZ hf (by decide+kernel) (by decide+kernel) kR j8)
noncomputable abbrev pm(m:Int):D:= .tup [.str "peer",.int m]
noncomputable def tf(b0 b1 b2 b3:Bool):List Str:=[("no 226 all told":Str)]++zm 0 b0++zm 1 b1++zm 2 b2++zm 3 b3
noncomputable def di(m0 m1 m2 m3 m4:Int):xO:=[("a\"b",pm m0),("",pm m1),("z",pm m2),("\"",pm m3),("\"\"",pm m4)]
omit hf in
theorem xi(k:Nat)(b:Bool)(hk:k<4):(zm k b).length<=2:=by
 induction b using cT with
 |false=>simp[zm]
 |true=>match k,hk with
  |0,_=>decide
  |1,_=>decide
  |2,_=>decide
  |3,_=>decide
theorem jIm{m0 m1 m2 m3 m4:Int}{b0 b1 b2 b3:Bool}(h0:m0.natAbs<10 ^ 9)(h1:m1.natAbs<10 ^ 9)(h2:m2.natAbs<10 ^ 9)(h3:m3.natAbs<10 ^ 9)(h4:m4.natAbs<10 ^ 9):
  R1 C glob n ([],[],[]) (rF m0 m1 m2 m3 m4 (zm 0 b0) (zm 1 b1) (zm 2 b2) (zm 3 b3) []) (di m0 m1 m2 m3 m4,[],(tf b0 b1 b2 b3).map .str):=by
 have o0:=xi 0 b0 kD
 have o1:=xi 1 b1 kD
 have o2:=xi 2 b2 kD
 have o3:=xi 3 b3 kD
 unfold rF
 rw[List.append_nil]
 have s0:R1 C glob n ([],[],[]) (uu++[("226 all told":Str)]) ([],[.str "a\"b",.str "",.str "z",.str "\"",.str "\"\""],[.str "no 226 all told"]):=by
  refine gV.append (b:=([],[.str "a\"b",.str "",.str "z",.str "\"",.str "\"\""],[])) ?_ (.one ?_)
  ·exact .cons (gB hf (x:="a\"b") kR kD) (.cons (gB hf (x:="") kR kD) (.cons (gB hf (x:="z") kR kD) (.cons (gB hf (x:="\"") kR kD) (.one (gB hf (x:="\"\"") kR kD)))))
  ·have:=jIq (C:=C) hf (glob:=glob) (n:=n) (kvs:=[]) (w:=[.str "a\"b",.str "",.str "z",.str "\"",.str "\"\""]) (q:=[]) (t:="226 all told") (by decide+kernel) (by decide+kernel) kR (by simp)
   rw[show (("no ":Str)++("226 all told":Str))="no 226 all told" by decide+kernel] at this
   exact this
 have mk124:∀{m:Int},m.natAbs<10 ^ 9->Mk 124 (tx m).cps.toList:=fun h=>me kD kD kD kD h
 have f0:=(s0.append (.one (v5 (key:="a\"b") hf (mk124 h0) h0 (by simp) (by simp)))).append (k7 hf 0 b0 kD (by simp))
 have f1:=(f0.append (.one (v5 (kvs:=[("a\"b",pm m0)]) (key:="") hf (me (c:=33) kD kD kD kD h1) h1 (by simp) (by simp)))).append (k7 hf 1 b1 kD (by simp;exact j8))
 have f2:=(f1.append (.one (v5 (kvs:=[("a\"b",pm m0),("",pm m1)]) (key:="z") hf (me (c:=120) kD kD kD kD h2) h2 (by simp) (by simp)))).append (k7 hf 2 b2 kD (by simp;lia))
 have f3:=(f2.append (.one (v5 (kvs:=[("a\"b",pm m0),("",pm m1),("z",pm m2)]) (key:="\"") hf (me (c:=40) kD kD kD kD h3) h3 (by simp) (by simp)))).append (k7 hf 3 b3 kD (by simp;lia))
 have f4:=f3.append (.one (v5 (kvs:=[("a\"b",pm m0),("",pm m1),("z",pm m2),("\"",pm m3)]) (key:="\"\"") (w:=[]) hf (mk124 h4) h4 (by simp) (by simp)))
 have e:(tf b0 b1 b2 b3).map D.str=[.str "no 226 all told"]++(zm 0 b0).map .str++(zm 1 b1).map .str++(zm 2 b2).map .str++(zm 3 b3).map .str:=by
  simp[tf]
 rw[e]
 exact f4
end
structure MSc(sc:Scope):Prop where
 nm:∀x∈(["sequences","candidate","s1","s2","result"]:List Str),sc.names.lookup x=some .local
 ok:∀p2 p3 p4:Pos,jm sc rz [⟨.Name "s" p2,.Name "sequences" p3,[.Name "s" p4],0⟩]=true
section
variable{fns:List (Str×Fn)}{glob:xO}{sc:Scope}(M:MSc sc){n:Nat}{p:Nat->Pos}
include M
theorem mvar{x:Str}{q:Pos}{l:Loc}{d:D}{j:Nat}(hx:x∈(["sequences","candidate","s1","s2","result"]:List Str))(h:l x=some d):(ev fns glob (j+1)).E false sc l (.Name x q)=some d:=by
 refine jD ?_ (by rw[M.nm x hx];rfl) h
 simp only[List.mem_cons,List.not_mem_nil,or_false] at hx
 rcases hx with rfl|rfl|rfl|rfl|rfl <;> decide
theorem uw{x:Str}{q:Pos}(hx:x∈(["sequences","candidate","s1","s2","result"]:List Str)):uj sc (.Name x q)=true:=by
 refine(?_:decide (sc.names.lookup x=some .local\/sc.names.lookup x=some .cell)=true)
 rw[M.nm x hx];decide
def MK(l l':jQ):Prop:=∀x∈(["sequences","result"]:List Str),l' x=l x
noncomputable abbrev ez(p:Nat->Pos):List Stmt:=[.If (.Compare (.Name "candidate" (p 21)) [.In] [.Subscript (.Name "s2" (p 22)) (.Slice (some (.Constant (.int 1) 0 (p 23))) none none (p 24)) (p 25)] (p 26)) [.Assign [.Name "candidate" (p 27)] (.Constant .none 0 (p 28)) (p 29),.Break (p 30)] [] (p 31)]
theorem m_if{l:jQ}{a:Addr}{c:Str}{xs:List Str}(h1:l "candidate"=some (.val (.str c)))(h2:l "s2"=some (.val (.lref a (xs.map .str))))(hlen:xs.length<=lim):
  qV (ev fns glob (n+4)) false sc l (ez p)=if xs.tail.contains c then some (.brk,jA l "candidate" (.val .none)) else some (.next,l):=by
 have ht:Bt (ev fns glob (n+3)) false sc (qx l) 4 (.Compare (.Name "candidate" (p 21)) [.In] [.Subscript (.Name "s2" (p 22)) (.Slice (some (.Constant (.int 1) 0 (p 23))) none none (p 24)) (p 25)] (p 26))=some (xs.tail.contains c):=by
  refine j5 (by rfl) (x:= .str c) (y:= .list (xs.tail.map .str)) (mvar M kK (jP h1)) (jH5 kD (M.nm _ nu) (jP h2) hlen) ?_
  exact jJg c xs.tail
 generalize hc:xs.tail.contains c=x0;induction x0 using cT with
 |true=>
  rw[hc] at ht
  refine yO ((xu ht).trans ?_)
  exact(jF (jT (d:= .none) (by rfl) (uw M kK) kD)).trans (yO rfl)
 |false=>
  rw[hc] at ht
  exact(jF ((xu ht).trans jW)).trans jW
theorem m_inner{cur:Addr->List Str}{c:Str}(hs:List Addr):∀(l:jQ),l "candidate"=some (.val (.str c))->(∀a∈hs,(cur a).length<=lim)->
  ∃l',forL (ev fns glob (n+4)) false sc (.Name "s2" (p 19)) (ez p) l (qW hs cur)=some (if xU (hs.map cur) c then .next else .brk,l')/\MK l l'/\(xU (hs.map cur) c=true->l' "candidate"=some (.val (.str c))):=by
 induction hs with
 |nil=>
  intro l h _
  exact⟨l,xj,fun _ _=>rfl,fun _=>h⟩
 |cons a hs ih=>
  intro l h hl
  have h1:jA l "s2" (B.val (.lref a ((cur a).map .str))) "candidate"=some (.val (.str c)):=(sN).trans h
  have hb:=m_if (fns:=fns) (glob:=glob) (n:=n) (p:=p) M h1 jI (hl a jk)
  generalize hc:(cur a).tail.contains c=x0;induction x0 using cT with
  |true=>
   rw[hc] at hb
   have hk:xU ((a::hs).map cur) c=false:=by
    unfold xU
    rw[List.map_cons,List.all_cons,List.drop_one,hc];rfl
   rw[hk]
   refine vM _ (uV rfl hb) (fun x hx=> ?_) (fun e=>by exact zf e)
   simp only[List.mem_cons,List.not_mem_nil,or_false] at hx
   rcases hx with rfl|rfl <;> exact(sN).trans (sN)
  |false=>
   rw[hc] at hb
   have hk:xU ((a::hs).map cur) c=xU (hs.map cur) c:=by
    unfold xU
    rw[List.map_cons,List.all_cons,List.drop_one,hc];rfl
   rw[hk]
   refine xQ (ih _ h1 fun b fE=>hl b (qO _ fE)) fun l' e' k' g'=> ?_
   refine vM l' ((jo rfl hb).trans e') (fun x hx=>(k' x hx).trans ?_) g'
   simp only[List.mem_cons,List.not_mem_nil,or_false] at hx
   rcases hx with rfl|rfl <;> exact qf kD
noncomputable abbrev bf(p:Nat->Pos):List Stmt:=[
  .Assign [.Name "candidate" (p 14)] (.Subscript (.Name "s1" (p 15)) (.Constant (.int 0) 0 (p 16)) (p 17)) (p 18),
  .For (.Name "s2" (p 19)) (.Name "sequences" (p 20)) (ez p) [.Break (p 32)] (p 33)]
theorem m_outer{live:List Addr}{cur:Addr->List Str}{c:Str}(hl:∀a∈live,(cur a).length<=lim)(hs:List Addr):∀(l:jQ),l "sequences"=some (.val (.list (qW live cur)))->ym (live.map cur) (hs.map cur)=some c->(∀a∈hs,(cur a).length<=lim)->
  ∃l',forL (ev fns glob (n+6)) false sc (.Name "s1" (p 12)) (bf p) l (qW hs cur)=some (.brk,l')/\MK l l'/\l' "candidate"=some (.val (.str c)):=by
 induction hs with
 |nil=>
  intro l h hp _
  cases hp
 |cons a hs ih=>
  intro l h hp hlen
  have ha:=hlen a jk
  rw[List.map_cons] at hp
  refine bE (show (cur a).head?.bind _=_ from hp) fun c' hh hp=> ?_
  ·have h1:jA l "s1" (B.val (.lref a ((cur a).map .str))) "sequences"=some (.val (.list (qW live cur))):=(sN).trans h
   have h2:jA l "s1" (B.val (.lref a ((cur a).map .str))) "s1"=some (.val (.lref a ((cur a).map .str))):=jI
   have h3:jA l "s1" (B.val (.lref a ((cur a).map .str))) "result"=l "result":=qf kD
   have h4:jA l "s1" (B.val (.lref a ((cur a).map .str))) "sequences"=l "sequences":=qf kD
   generalize wu:jA l "s1" (B.val (.lref a ((cur a).map .str)))=l1 at h1 h2 h3 h4
   have e1:(ev fns glob (n+6)).S false sc l1 (.Assign [.Name "candidate" (p 14)] (.Subscript (.Name "s1" (p 15)) (.Constant (.int 0) 0 (p 16)) (p 17)) (p 18))=some (.next,jA l1 "candidate" (.val (.str c'))):=by
    refine jT (je (by rfl) (x:= .lref a ((cur a).map .str)) (y:= .int ((0:Nat):Int)) (mvar M mF (jE h2)) (by rfl) ?_) (uw M kK) kD
    refine(?_:wN (.list ((cur a).map .str)) (.int ((0:Nat):Int))=_)
    refine qI ?_ (by simpa using ha)
    rw[List.getElem?_map,<-List.head?_eq_getElem?,hh];rfl
   refine xQ (m_inner (fns:=fns) (glob:=glob) (n:=n+1) (p:=p) M (cur:=cur) (c:=c') live (jA l1 "candidate" (.val (.str c'))) jI hl) fun l2 e2 k2 g2=> ?_
   have iT:MK l l2:=fun x hx=>by
    refine(k2 x hx).trans ?_
    simp only[List.mem_cons,List.not_mem_nil,or_false] at hx
    rcases hx with rfl|rfl
    ·exact(sN).trans h4
    ·exact(sN).trans h3
   have hits:zV (ev fns glob (n+5)) false sc (jV (jA l1 "candidate" (.val (.str c')))) (.Name "sequences" (p 20))=some (qW live cur):=by
    refine(?_:((ev fns glob (n+5)).E false sc _ (.Name "sequences" (p 20))).bind ju=_)
    rw[mvar M x9 (jE ((sN).trans h1))];rfl
   have mA:(uj sc (.Name "s2" (p 19))&& !qZ (.Name "sequences" (p 20))&&(vV (.Name "s2" (p 19))|| !xg (.Name "sequences" (p 20))))=true:=by
    rw[uw M nu];rfl
   generalize hk:xU (live.map cur) c'=x0;induction x0 using cT with
   |true=>
    rw[hk] at e2 hp
    have hp:some c'=some c:=hp
    replace hp:=j6 hp;subst hp
    have hb:qV (ev fns glob (n+6)) false sc l1 (bf p)=some (.brk,l2):=
     (jF e1).trans (yO (ft mA hits e2 (.inr rfl) (yO rfl)))
    exact vM l2 (uV (by rw[<-wu];rfl) hb) iT (g2 hk)
   |false=>
    rw[hk] at e2 hp
    have hb:qV (ev fns glob (n+6)) false sc l1 (bf p)=some (.next,l2):=
     (jF e1).trans ((jF (fu mA hits e2)).trans jW)
    have vI:l2 "sequences"=some (.val (.list (qW live cur))):=(iT _ x9).trans h
    refine xQ (ih l2 vI hp fun b fE=>hlen b (qO _ fE)) fun l' e' k' g'=> ?_
    exact vM l' ((jo (by rw[<-wu];rfl) hb).trans e') (fun x hx=>(k' x hx).trans (iT x hx)) g'
end
section
variable{fns:List (Str×Fn)}{glob:xO}{sc:Scope}(M:MSc sc){n:Nat}{p:Nat->Pos}
include M
theorem m_round{hs:List Addr}{cur:Addr->List Str}{xs:List Str}{c:Str}(hlen:hs.length<=1000)(xq:∀a∈hs,(cur a).length<=1000)(hx:xs.length<=1000)
  (ku:((p 44).endLine==(p 46).line)=true) (jv:hs.filter (fun a=> !(cur a).isEmpty)≠[]) (hp:ym ((hs.filter fun a=> !(cur a).isEmpty).map cur) ((hs.filter fun a=> !(cur a).isEmpty).map cur)=some c):
  ∃l',qV (ev fns glob (n+10)) false sc (kN hs cur xs) (rn p)=some (.next,l')/\l' "sequences"=some (.val (.list (qW (hs.filter fun a=> !(cur a).isEmpty) cur)))/\l' "result"=some (.own ((xs++[c]).map .str))/\l' "candidate"=some (.val (.str c)):=by
 have jw:lim=1000000:=rfl
 have h0:kN hs cur xs "sequences"=some (.val (.list (qW hs cur))):=by unfold kN;rw[if_pos rfl]
 have h0r:kN hs cur xs "result"=some (.own (xs.map .str)):=by unfold kN;rw[if_neg kD,if_pos rfl]
 have wQ:∀a∈hs.filter (fun a=> !(cur a).isEmpty),(cur a).length<=lim:=fun a ha=>by have:=xq a (qG.mp ha).1;exact j8
 have iV:(hs.filter fun a=> !(cur a).isEmpty).length<=hs.length:=List.length_filter_le _ _
 have e0:(ev fns glob (n+10)).S false sc (kN hs cur xs) (.Assign [.Name "sequences" (p 0)] (.ListComp (.Name "s" (p 1)) [⟨.Name "s" (p 2),.Name "sequences" (p 3),[.Name "s" (p 4)],0⟩] rz (p 5)) (p 6))=some (.next,jA (kN hs cur xs) "sequences" (.val (.list (qW (hs.filter fun a=> !(cur a).isEmpty) cur)))):=
  jT (jD3 (p6:=p 0) (n:=n+6) (M.nm _ x9) (M.ok _ _ _) h0 j8 fun a ha=>by have:=xq a ha;exact j8) (uw M x9) kD
 generalize (hs.filter fun a=> !(cur a).isEmpty)=live at jv hp wQ iV e0
 have h1:jA (kN hs cur xs) "sequences" (B.val (.list (qW live cur))) "sequences"=some (.val (.list (qW live cur))):=jI
 have ay:jA (kN hs cur xs) "sequences" (B.val (.list (qW live cur))) "result"=some (.own (xs.map .str)):=(sN).trans h0r
 generalize jA (kN hs cur xs) "sequences" (B.val (.list (qW live cur)))=l1 at e0 h1 ay
 have hb:Bt (ev fns glob (n+9)) false sc (qx l1) 4 (.UnaryOp .Not (.Name "sequences" (p 7)) (p 8))=some false:=by
  have ht:Bt (ev fns glob (n+9)) false sc (qx l1) 3 (.Name "sequences" (p 7))=some true:=by
   refine(?_:((ev fns glob (n+9)).E false sc (qx l1) (.Name "sequences" (p 7))).bind kn=_)
   rw[mvar M x9 (jP h1)]
   refine(?_:kn (.list (qW live cur))=_)
   rw[jIk (by simp[qW];lia)]
   induction live using cL with
   |nil=>exact absurd rfl jv
   |cons a r=>rfl
  exact fw ht
 refine xQ (m_outer (fns:=fns) (glob:=glob) (n:=n+3) (p:=p) M wQ live l1 h1 hp wQ) fun l2 e2 k2 g2=> ?_
 have hits:zV (ev fns glob (n+9)) false sc (jV l1) (.Name "sequences" (p 13))=some (qW live cur):=by
  refine(?_:((ev fns glob (n+9)).E false sc _ (.Name "sequences" (p 13))).bind ju=_)
  rw[mvar M x9 (jE h1)];rfl
 have mA:(uj sc (.Name "s1" (p 12))&& !qZ (.Name "sequences" (p 13))&&(vV (.Name "s1" (p 12))|| !xg (.Name "sequences" (p 13))))=true:=by
  rw[uw M mF];rfl
 have hc:Bt (ev fns glob (n+9)) false sc (qx l2) 4 (.Compare (.Name "candidate" (p 35)) [.Is] [.Constant .none 0 (p 36)] (p 37))=some false:=
  j5 (by rfl) (x:= .str c) (y:= .none) (mvar M kK (jP g2)) (by rfl) (by rfl)
 have sE:l2 "result"=some (.own (xs.map .str)):=(k2 _ kK).trans ay
 refine⟨jA l2 "result" (.own (xs.map .str++[.str c])),?_,(sN).trans ((k2 _ x9).trans h1),jI.trans (by simp),(sN).trans g2⟩
 unfold rn
 refine(jF e0).trans ?_
 refine(jF ((xu hb).trans jW)).trans ?_
 refine(jF (fu mA hits e2)).trans ?_
 refine(jF ((xu hc).trans jW)).trans ?_
 exact(jF (yT sE (mvar M kK (jE g2)) ku (by rfl) kD kD (by simp;exact j8))).trans jW
theorem m_end{hs:List Addr}{cur:Addr->List Str}{xs:List Str}(hlen:hs.length<=1000)(xq:∀a∈hs,(cur a).length<=1000)(he:hs.filter (fun a=> !(cur a).isEmpty)=[]):
  ∃l',qV (ev fns glob (n+10)) false sc (kN hs cur xs) (rn p)=some (.ret (.list (xs.map .str)),l'):=by
 have jw:lim=1000000:=rfl
 have h0:kN hs cur xs "sequences"=some (.val (.list (qW hs cur))):=by unfold kN;rw[if_pos rfl]
 have h0r:kN hs cur xs "result"=some (.own (xs.map .str)):=by unfold kN;rw[if_neg kD,if_pos rfl]
 have e0:(ev fns glob (n+10)).S false sc (kN hs cur xs) (.Assign [.Name "sequences" (p 0)] (.ListComp (.Name "s" (p 1)) [⟨.Name "s" (p 2),.Name "sequences" (p 3),[.Name "s" (p 4)],0⟩] rz (p 5)) (p 6))=some (.next,jA (kN hs cur xs) "sequences" (.val (.list (qW (hs.filter fun a=> !(cur a).isEmpty) cur)))):=
  jT (jD3 (p6:=p 0) (n:=n+6) (M.nm _ x9) (M.ok _ _ _) h0 j8 fun a ha=>by have:=xq a ha;exact j8) (uw M x9) kD
 rw[he] at e0
 have h1:jA (kN hs cur xs) "sequences" (B.val (.list (qW [] cur))) "sequences"=some (.val (.list (qW [] cur))):=jI
 have ay:jA (kN hs cur xs) "sequences" (B.val (.list (qW [] cur))) "result"=some (.own (xs.map .str)):=(sN).trans h0r
 generalize jA (kN hs cur xs) "sequences" (B.val (.list (qW [] cur)))=l1 at e0 h1 ay
 have hb:Bt (ev fns glob (n+9)) false sc (qx l1) 4 (.UnaryOp .Not (.Name "sequences" (p 7)) (p 8))=some true:=by
  have ht:Bt (ev fns glob (n+9)) false sc (qx l1) 3 (.Name "sequences" (p 7))=some false:=by
   refine(?_:((ev fns glob (n+9)).E false sc (qx l1) (.Name "sequences" (p 7))).bind kn=_)
   rw[mvar M x9 (jP h1)];rfl
  exact fw ht
 refine⟨l1,?_⟩
 unfold rn
 refine(jF e0).trans ?_
 exact kh ((xu hb).trans (kh (wV (mvar M zm4 (vc ay)))))
omit M in
theorem jBx(hs:List Addr)(cur:Addr->List Str):(hs.map cur).filter (fun s=> !s.isEmpty)=(hs.filter fun a=> !(cur a).isEmpty).map cur:=by
 rw[List.filter_map];rfl
theorem jHq(ku:((p 44).endLine==(p 46).line)=true)(m:Nat):∀(hs:List Addr) (cur:Addr->List Str) (xs out:List Str),wc m (hs.map cur)=some out->hs.Nodup->(∀a,a∉hs->cur a=[])->hs.length<=1000->(∀a∈hs,(cur a).length<=1000)->xs.length+m<=1000->
  ∃N,gA (ev fns glob (n+10)) sc (rn p) hs cur xs (xs++out) N:=by
 induction m with
 |zero=>
  intro hs cur xs out h _ _ _ _ _
  cases h
 |succ m ih=>
  intro hs cur xs out h hn hz hlen xq hx
  have jw:lim=1000000:=rfl
  rw[jD4,jBx] at h
  by_cases he:hs.filter (fun a=> !(cur a).isEmpty)=[]
  ·rw[he] at h
   replace h:=j6 h;subst h
   obtain⟨l',e⟩:=m_end (fns:=fns) (glob:=glob) (n:=n) (p:=p) (xs:=xs) M hlen xq he
   refine⟨0,?_⟩
   rw[List.append_nil]
   refine .ret e fun a=> ?_
   by_cases ha:a∈hs
   ·generalize hc:cur a=x0;induction x0 using cL with
    |nil=>rfl
    |cons x r=>
     have:a∈hs.filter (fun a=> !(cur a).isEmpty):=qG.mpr ⟨ha,by rw[hc];rfl⟩
     rw[he] at this;cases this
   ·exact hz a ha
  ·have cA:((hs.filter fun a=> !(cur a).isEmpty).map cur).isEmpty=false:=by
    generalize hq:(hs.filter (fun a=> !(cur a).isEmpty))=x0;induction x0 using cL with
    |nil=>exact absurd hq he
    |cons a r=>rfl
   rw[cA] at h
   simp only[Bool.false_eq_true,if_false] at h
   refine bE h fun c hp h=> ?_
   ·refine mE h ?_;rintro out' h1 rfl
    obtain⟨l',e,e1,e2,e3⟩:=m_round (fns:=fns) (glob:=glob) (n:=n) (p:=p) (xs:=xs) M hlen xq (by refine xJ ?_ (by assumption);simp+arith) ku he hp
    have iO:(hs.filter fun a=> !(cur a).isEmpty).Nodup:=hn.filter _
    have qu:∀a∈hs.filter (fun a=> !(cur a).isEmpty),a∈hs/\cur a≠[]:=fun a ha=>by
     obtain⟨g1,g2⟩:=qG.mp ha
     refine⟨g1,fun e=> ?_⟩
     rw[e] at g2;cases g2
    have kx:∀a,a∉hs.filter (fun a=> !(cur a).isEmpty)->cur a=[]:=fun a ha=>by
     by_cases hm:a∈hs
     ·generalize hc:cur a=x0;induction x0 using cL with
      |nil=>rfl
      |cons x r=>exact absurd (qG.mpr ⟨hm,by rw[hc];rfl⟩) ha
     ·exact hz a hm
    have hle:(hs.filter fun a=> !(cur a).isEmpty).length<=hs.length:=List.length_filter_le _ _
    generalize hlv:hs.filter (fun a=> !(cur a).isEmpty)=live at *
    have hmap:live.map (xx c live cur)=(live.map cur).map fun s=>if s.head? =some c then s.tail else s:=by
     rw[List.map_map]
     refine List.map_congr_left fun a ha=> ?_
     refine(?_:xx c live cur a=_)
     unfold xx
     by_cases g:(cur a).head? =some c
     ·rw[if_pos ⟨ha,g⟩];simp[g]
     ·rw[if_neg fun h=>g h.2];simp[g]
    rw[<-hmap] at h1
    have hdrop:∀a,(xx c live cur a).length<=(cur a).length:=fun a=>by
     unfold xx
     split
     ·rw[List.length_tail];lia
     ·exact Nat.le_refl _
    obtain⟨N,run⟩:=ih live (xx c live cur) (xs++[c]) out' h1 iO (fun a ha=>by
     unfold xx
     rw[if_neg fun h=>ha h.1]
     exact kx a ha) (bX zA zA) (fun a ha=>xJ (hdrop a) (xq a (qu a ha).1)) (by simp;(refine xJ ?_ (by assumption);simp+arith))
    refine⟨N+1,.turn e e1 e2 e3 he (fun a ha=>(qu a ha).1) iO (fun a ha=>⟨(qu a ha).2,by have:=xq a (qu a ha).1;exact j8⟩) ?_⟩
    rw[List.append_assoc] at run
    exact run
end
theorem gz:∀(hs:List Addr) (xss:List (List Str)),hs.Nodup->hs.length=xss.length->hs.map (yR hs xss)=xss
 |[],[],_,_=>rfl
 |a::hs,x::xss,hn,hl=>by
  obtain⟨h1,h2⟩:=y7.mp hn
  have ih:=gz hs xss h2 (by simpa using hl)
  rw[List.map_cons]
  congr 1
  ·unfold yR
   simp
  ·refine Eq.trans (List.map_congr_left fun b hb=> ?_) ih
   have jv:(b==a)=false:=by
    rw[beq_eq_false_iff_ne]
    rintro rfl
    exact h1 hb
   unfold yR
   rw[List.zip_cons_cons,List.lookup_cons,jv]
theorem jH8{hs:List Addr}{xss:List (List Str)}{a:Addr}(h:a∉hs):yR hs xss a=[]:=by
 unfold yR
 have:(hs.zip xss).lookup a=none:=by
  rw[List.lookup_eq_none_iff]
  intro p hp
  have:=(List.of_mem_zip hp).1
  simp only[bne_iff_ne,ne_eq]
  rintro rfl
  exact h this
 rw[this];rfl
noncomputable def fL:Fn:=fnAt Challenge.pw_oy0159_01 "law"
noncomputable abbrev xF:Scope:=fL.scope
noncomputable abbrev qM(i:Nat):Stmt:=qR fL.body i
noncomputable def uv(xs:List Int)(lo hi st:Option Int):List Int:=(sliceRange (sliceBounds lo hi st xs.length).1 (sliceBounds lo hi st xs.length).2.1 (sliceBounds lo hi st xs.length).2.2).filterMap (xs[·]?)
theorem jIw(xs:List Int)(lo hi st:Option Int):pick (xs.map .int) lo hi st=(uv xs lo hi st).map .int:=by
 unfold pick uv
 rw[List.length_map,List.map_filterMap]
 congr 1
 funext i
 rw[List.getElem?_map]
section
variable{fns:List (Str×Fn)}{glob:xO}{n:Nat}{l:jQ}
theorem jJ6{k:Bool}{sc:Scope}{lp:Loc}{a e1 e3:Expr}{p p1:Pos}{ds:List D}{i j:Int}(h1:(ev fns glob n).E k sc lp a=some (.list ds))(h2:(ev fns glob n).E k sc lp e1=some (.int i))(h3:(ev fns glob n).E k sc lp e3=some (.int j))(hj:j≠0)(hl:ds.length<=lim):
  (ev fns glob (n+1)).E k sc lp (.Subscript a (.Slice (some e1) none (some e3) p1) p)=some (.list (pick ds (some i) none (some j))):=by
 refine(gE h1 (yI h2) rfl (yI h3)).trans ?_
 refine(?_:(if (some j:Option Int)≠some 0/\ds.length<=lim then some (D.list (pick ds (some i) none (some j))) else none)=_)
 rw[if_pos ⟨by simpa using hj,hl⟩]
noncomputable def kq:List Int:=[259,193,84,295,133,64076]
noncomputable def numP(ns:List Int)(k:Nat):Int:=((uv (ns.take 60) (some (k:Int)) none (some 6)).sum+kq.getD k 0) % 1572864
noncomputable def uG(ns:List Int):List Int:=(List.range 6).map (numP ns)
theorem stm0{ns:List Int}(h:l "script"=some (.val (.list (ns.map .int))))(hl:ns.length<=1000):(ev [] glob (n+20)).S true xF l (qM 0)=some (.next,jA l "taken" (.val (.list ((ns.take 60).map .int)))):=by
 have jw:lim=1000000:=rfl
 refine jT ?_ kR kR
 refine(E_to (i:=60) (ds:=ns.map .int) (jD kR kR (jE h)) kR (by simp;exact j8)).trans ?_
 rw[List.map_take]
theorem vH:(ev [] glob (n+20)).S true xF l (qM 1)=some (.next,jA l "own" (.val (.list (kq.map .int)))):=
 jT kR kR kR
theorem eQ{ns:List Int}(h:l "taken"=some (.val (.list ((ns.take 60).map .int))))(h2:l "own"=some (.val (.list (kq.map .int)))):(ev [] glob (n+20)).S true xF l (qM 2)=some (.next,jA l "numbers" (.val (.list ((uG ns).map .int)))):=by
 have jw:lim=1000000:=rfl
 have ht:(ns.take 60).length<=60:=by rw[List.length_take];lia
 refine(?_:(ev [] glob (n+20)).S true xF l (.Assign [_] (.ListComp (.BinOp (.BinOp (.Call (.Name _ _) [.Subscript _ _ _] [] _) _ (.Subscript _ _ _) _) _ _ _) _ _ _) _)=_)
 refine jT ((vT (fun k:Nat=> .int (k:Int)) (fun k=> .int (numP ns k)) (List.range 6) kR kR kR ?_ (by simp;decide)).trans ?_) kR kR
 ·intro k hk
  have hk:=yQ.mp hk
  refine j7 (x:= .int ((uv (ns.take 60) (some (k:Int)) none (some 6)).sum+kq.getD k 0)) (y:= .int 1572864) (j7 (x:= .int (uv (ns.take 60) (some (k:Int)) none (some 6)).sum) (y:= .int (kq.getD k 0)) (jf (x:= .list ((uv (ns.take 60) (some (k:Int)) none (some 6)).map .int)) kR kR kD kD kR kR ((jJ6 (i:=(k:Int)) (j:=6) (ds:=(ns.take 60).map .int) (jD kR kR ?_) kR kR kD (by simp;lia)).trans ?_) (sum_ints _)) (je kR (x:= .list (kq.map .int)) (y:= .int (k:Int)) (jD kR kR ?_) kR (qI ?_ kD)) kR) kR (mod_val kD)
  ·exact(jE h:jV l "taken"=_)
  ·rw[jIw]
  ·exact(jE h2:jV l "own"=_)
  ·exact getD_map (f:=D.int) (d:=0) hk
 ·unfold uG
  rw[List.map_map];rfl
theorem jHl(ns:List Int):(uG ns).length=6:=by simp[uG]
noncomputable def qe:List Int:=[256,8,1024,2]
noncomputable def nq(x:Int):Int:=(((List.range 12).filter fun k=> !decide ((2:Int) ^ k∈qe)&&x8 x k).map fun k=>(2:Int) ^ k).sum
noncomputable def uP(x:Int):Int:=(((List.range 4).filter fun k=>x8 x k).map fun k=>qe.getD k 0).sum
noncomputable def z7(xs:List Int)(k:Nat):Int:=nq (xs.getD 5 0)+uP (xs.getD k 0)
noncomputable def zl(xs:List Int)(k:Nat):Int:=z7 xs k+4096 * (xs.getD k 0 / 16 % 24 - 8)
noncomputable abbrev y8(xs:List Int):List Int:=(List.range 5).map (z7 xs)
noncomputable abbrev z8(xs:List Int):List Int:=(List.range 5).map (zl xs)
noncomputable abbrev xN(xs:List Int)(k:Nat):List Str:=zm k (x8 (xs.getD 5 0 / 4096) k)
variable{xs:List Int}
theorem st4:(ev jK jO (n+30)).S true xF l (qM 4)=some (.next,jA l "units" (.val (.list (qe.map .int)))):=
 jT kR kR kR
theorem rT{m k:Nat}{lp:Loc}{sc:Scope}{a b:Expr}{p:Pos}{kk:Bool}(hb:isSlice b=false)(hn:(ev jK jO m).E kk sc lp a=some (.list (xs.map .int)))(hk:(ev jK jO m).E kk sc lp b=some (.int (k:Int)))(hx:xs.length=6)(hk6:k<6):(ev jK jO (m+1)).E kk sc lp (.Subscript a b p)=some (.int (xs.getD k 0)):=by
 have jw:lim=1000000:=rfl
 exact je hb hn hk (qI (getD_map (f:=D.int) (d:=0) (by lia)) (by simp;lia))
theorem st5(hx:xs.length=6)(h1:l "units"=some (.val (.list (qe.map .int))))(h2:l "numbers"=some (.val (.list (xs.map .int)))):(ev jK jO (n+30)).S true xF l (qM 5)=some (.next,jA l "common" (.val (.int (nq (xs.getD 5 0))))):=by
 have jw:lim=1000000:=rfl
 refine(?_:(ev jK jO (n+30)).S true xF l (.Assign [_] (.Call (.Name _ _) [.ListComp _ _ _ _] [] _) _)=_)
 refine jT (jf (x:= .list ((((List.range 12).filter fun k=> !decide ((2:Int) ^ k∈qe)&&x8 (xs.getD 5 0) k).map fun k=>(2:Int) ^ k).map .int)) kR kR kD kD kR kR ?_ (sum_ints _)) kR kR
 refine(vS (fun k:Nat=> .int (k:Int)) (fun k=> !decide ((2:Int) ^ k∈qe)&&x8 (xs.getD 5 0) k) (fun k=> .int ((2:Int) ^ k)) (List.range 12) kR kR kR ?_ ?_ (by simp;decide)).trans ?_
 ·intro k hk
  have hk:=yQ.mp hk
  refine zL (gj (j5 kR (x:= .int ((2:Int) ^ k)) (y:= .list (qe.map .int)) (j7 kR kR (gK (rh zA zD))) (jD kR kR ?_) (jZ.int.notIn kD _ _)) (rO (rT (k:=5) kR (jD kR kR ?_) kR hx kD) kR (rh zA zD)))
  ·exact(jE h1:jV l "units"=_)
  ·exact(jE h2:jV l "numbers"=_)
 ·intro k hk _
  have hk:=yQ.mp hk
  exact j7 kR kR (gK (rh zA zD))
 ·rw[List.map_map];rfl
theorem st6(hx:xs.length=6)(h1:l "units"=some (.val (.list (qe.map .int))))(h2:l "numbers"=some (.val (.list (xs.map .int))))(h3:l "common"=some (.val (.int (nq (xs.getD 5 0))))):(ev jK jO (n+30)).S true xF l (qM 6)=some (.next,jA l "drawn" (.val (.list ((y8 xs).map .int)))):=by
 have jw:lim=1000000:=rfl
 refine(?_:(ev jK jO (n+30)).S true xF l (.Assign [_] (.ListComp (.BinOp _ _ (.Call (.Name _ _) [.ListComp _ _ _ _] [] _) _) _ _ _) _)=_)
 refine jT ((vT (fun k:Nat=> .int (k:Int)) (fun k=> .int (z7 xs k)) (List.range 5) kR kR kR ?_ (by simp;decide)).trans ?_) kR kR
 ·intro k hk
  have hk:=yQ.mp hk
  refine j7 (x:= .int (nq (xs.getD 5 0))) (y:= .int (uP (xs.getD k 0))) (jD kR kR ?_) (jf (x:= .list ((((List.range 4).filter fun j=>x8 (xs.getD k 0) j).map fun j=>qe.getD j 0).map .int)) kR kR kD kD kR kR ?_ (sum_ints _)) kR
  ·exact(jE h3:jV l "common"=_)
  ·refine(vS (fun j:Nat=> .int (j:Int)) (fun j=>x8 (xs.getD k 0) j) (fun j=> .int (qe.getD j 0)) (List.range 4) kR kR kR ?_ ?_ (by simp;decide)).trans ?_
   ·intro j hj
    have hj:=yQ.mp hj
    exact zL (rO (rT (k:=k) kR (jD kR kR (jE h2:jV l "numbers"=_)) kR hx (ta zA zD)) kR (rh zA zD))
   ·intro j hj _
    have hj:=yQ.mp hj
    exact je kR (x:= .list (qe.map .int)) (y:= .int (j:Int)) (jD kR kR (jE h1:jV l "units"=_)) kR (qI (getD_map (f:=D.int) (d:=0) hj) kD)
   ·rw[List.map_map];rfl
 ·rw[List.map_map];rfl
theorem st7(hx:xs.length=6)(h2:l "numbers"=some (.val (.list (xs.map .int))))(h3:l "drawn"=some (.val (.list ((y8 xs).map .int)))):(ev jK jO (n+30)).S true xF l (qM 7)=some (.next,jA l "modes" (.val (.list ((z8 xs).map .int)))):=by
 have jw:lim=1000000:=rfl
 refine(?_:(ev jK jO (n+30)).S true xF l (.Assign [_] (.ListComp (.BinOp _ _ (.BinOp _ _ (.BinOp (.BinOp (.BinOp _ _ _ _) _ _ _) _ _ _) _) _) _ _ _) _)=_)
 refine jT ((vT (fun k:Nat=> .int (k:Int)) (fun k=> .int (zl xs k)) (List.range 5) kR kR kR ?_ (by simp;decide)).trans ?_) kR kR
 ·intro k hk
  have hk:=yQ.mp hk
  refine j7 (x:= .int (z7 xs k)) (y:= .int (4096 * (xs.getD k 0 / 16 % 24 - 8))) (je kR (x:= .list ((y8 xs).map .int)) (y:= .int (k:Int)) (jD kR kR (jE h3:jV l "drawn"=_)) kR (qI ?_ (by simp[y8];decide))) (j7 (x:= .int 4096) (y:= .int (xs.getD k 0 / 16 % 24 - 8)) kR (j7 (x:= .int (xs.getD k 0 / 16 % 24)) (y:= .int 8) (j7 (x:= .int (xs.getD k 0 / 16)) (y:= .int 24) (j7 (x:= .int (xs.getD k 0)) (y:= .int 16) (rT (k:=k) kR (jD kR kR (jE h2:jV l "numbers"=_)) kR hx (ta zA zD)) kR (div_val kD kD)) kR (mod_val kD)) kR kR) kR) kR
  rw[List.map_map,List.getElem?_map,List.getElem?_range hk];rfl
 ·rw[List.map_map];rfl
theorem st8:(ev jK jO (n+30)).S true xF l (qM 8)=some (.next,jA l "odd" (.val (.list (rl.map jC)))):=
 jT kR kR kR
theorem st9(hx:xs.length=6)(h2:l "numbers"=some (.val (.list (xs.map .int))))(h3:l "odd"=some (.val (.list (rl.map jC)))):(ev jK jO (n+30)).S true xF l (qM 9)=some (.next,jA l "spoiled" (.val (.list ([xN xs 0,xN xs 1,xN xs 2,xN xs 3,[]].map jC)))):=by
 have jw:lim=1000000:=rfl
 refine(?_:(ev jK jO (n+30)).S true xF l (.Assign [_] (.BinOp (.ListComp (.IfExp _ _ _ _) _ _ _) _ _ _) _)=_)
 refine jT (j7 (x:= .list ((List.range 4).map fun k=>jC (xN xs k))) (y:= .list [.list []]) (vT (fun k:Nat=> .int (k:Int)) (fun k=>jC (xN xs k)) (List.range 4) kR kR kR ?_ (by simp;decide)) kR ((add_lists (by simp;decide)).trans ?_)) kR kR
 ·intro k hk
  have hk:=yQ.mp hk
  refine zx (c:=x8 (xs.getD 5 0 / 4096) k) (rO (j7 (x:= .int (xs.getD 5 0)) (y:= .int 4096) (rT (k:=5) kR (jD kR kR (jE h2:jV l "numbers"=_)) kR hx kD) kR (div_val kD kD)) kR (rh zA zD)) ?_
  unfold xN zm
  cases x8 (xs.getD 5 0 / 4096) k with
  |false=>kernel_rfl
  |true=>exact je kR (x:= .list (rl.map jC)) (y:= .int (k:Int)) (jD kR kR (jE h3:jV l "odd"=_)) kR (qI (getD_map hk) kD)
 ·rfl
theorem zY{α:Type}(f:α->Int)(t u:α->Bool):∀xs:List α,(∀x∈xs,0<=f x)->(∀x∈xs,t x=true->u x=true)->0<=((xs.filter t).map f).sum/\((xs.filter t).map f).sum<=((xs.filter u).map f).sum
 |[],_,_=>by simp
 |x::xs,h0,h1=>by
  obtain⟨i1,i2⟩:=zY f t u xs (fun y hy=>h0 y (qO _ hy)) fun y hy=>h1 y (qO _ hy)
  have hx:=h0 x jk
  have hx1:=h1 x jk
  generalize ht:t x=x0;induction x0 using cT with
  |true=>
   have hu:=hx1 ht
   rw[List.filter_cons_of_pos ht,List.filter_cons_of_pos hu,List.map_cons,List.map_cons,List.sum_cons,List.sum_cons]
   lia
  |false=>
   rw[List.filter_cons_of_neg (by simp[ht])]
   generalize hu:u x=x0;induction x0 using cT with
   |true=>
    rw[List.filter_cons_of_pos hu,List.map_cons,List.sum_cons]
    lia
   |false=>
    rw[List.filter_cons_of_neg (by simp[hu])]
    exact⟨i1,i2⟩
theorem cmP_lt(x:Int):0<=nq x/\nq x<=2805:=by
 have h:=zY (fun k:Nat=>(2:Int) ^ k) (fun k=> !decide ((2:Int) ^ k∈qe)&&x8 x k) (fun k=> !decide ((2:Int) ^ k∈qe)) (List.range 12) (fun k _=>Int.le_of_lt (Int.pow_pos kD)) (fun k _ h=>by
  rw[Bool.and_eq_true] at h;exact h.1)
 have e:(((List.range 12).filter fun k=> !decide ((2:Int) ^ k∈qe)).map fun k=>(2:Int) ^ k).sum=2805:=by decide+kernel
 rw[e] at h
 exact h
theorem uP_lt(x:Int):0<=uP x/\uP x<=1290:=by
 have h:=zY (fun k:Nat=>qe.getD k 0) (fun k=>x8 x k) (fun _=>true) (List.range 4) kD (fun _ _ _=>rfl)
 have e:(((List.range 4).filter fun _=>true).map fun k=>qe.getD k 0).sum=1290:=by decide+kernel
 rw[e] at h
 exact h
theorem gf(xs:List Int)(k:Nat):0<=z7 xs k/\z7 xs k<=4095:=by
 have h1:=cmP_lt (xs.getD 5 0)
 have h2:=uP_lt (xs.getD k 0)
 unfold z7;lia
theorem arT{d r:Int}(h0:0<=d)(h1:d<=4095)(h2:0<=r)(h3:r<24):(d+4096 * (r - 8)).natAbs<10 ^ 9:=by
 rw[show (10:Nat) ^ 9=1000000000 by decide];omega
theorem zT(xs:List Int)(k:Nat):(zl xs k).natAbs<10 ^ 9:=by
 have h:=gf xs k
 exact arT h.1 h.2 (Int.emod_nonneg _ kD) (Int.emod_lt_of_pos _ kD)
theorem gC(xs:List Int)(k:Nat):zl xs k % 4096=z7 xs k:=by
 have h:=gf xs k
 exact(Int.add_mul_emod_self_left _ _ _).trans (Int.emod_eq_of_lt h.1 (Int.lt_of_le_of_lt h.2 kD))
theorem jZ.pm:jZ pm 1 where
 like:=fun a b=>rfl
 beq:=fun a b=>by
  refine(?_:(("peer":Str)=="peer"&&(a==b&&true))=_)
  rw[Bool.and_true,beq_self_eq_true,Bool.true_and]
  rw[Bool.eq_iff_iff];simp
 dep:=fun a=>Nat.le_refl _
theorem jG8{a:xO}{ms:List Int}{xs:List Str}(h:a.map (·.2)=ms.map Mine.pm):wb .NotEq (.tup [.dictS a,.list [],.list (xs.map .str)]) (.tup [.dictS a,.list [],.list (xs.map .str)])=some false:=by
 refine(?_:(if (D.like (.tup [.dictS a,.list [],.list (xs.map .str)]) (.tup [.dictS a,.list [],.list (xs.map .str)])&&decide (D.dep (.tup [.dictS a,.list [],.list (xs.map .str)])<=20))=true then some (!D.beq (.tup [.dictS a,.list [],.list (xs.map .str)]) (.tup [.dictS a,.list [],.list (xs.map .str)])) else uK (.tup [.dictS a,.list [],.list (xs.map .str)]) (.tup [.dictS a,.list [],.list (xs.map .str)]))=_)
 have e:D.like (.tup [.dictS a,.list [],.list (xs.map .str)]) (.tup [.dictS a,.list [],.list (xs.map .str)])=false:=rfl
 rw[e]
 refine(?_:(if a.map (·.1)=a.map (·.1)/\D.likes (a.map (·.2)) (a.map (·.2))=true/\D.like (.list []) (.list [])=true/\D.like (.list (xs.map .str)) (.list (xs.map .str))=true/\D.deps (a.map (·.2))<=20/\D.dep (.list [])<=20/\D.dep (.list (xs.map .str))<=20/\D.beqs (a.map (·.2)) (a.map (·.2))=true/\D.beq (.list []) (.list [])=true/\D.beq (.list (xs.map .str)) (.list (xs.map .str))=true then some false else none)=_)
 rw[if_pos]
 have f:=jZ.pm
 have g:=jZ.strs
 rw[h]
 refine⟨rfl,f.likes _ _,rfl,g.like xs xs,xJ (f.deps _) kD,by decide,xJ (g.dep xs) kD,by rw[f.beqs];simp,rfl,?_⟩
 exact(g.beq xs xs).trans (by simp)
variable{k:Bool}{sc:Scope}{lp:Loc}{a b c:Expr}{x y z:D}{m kd:Nat}{p:Pos}
theorem E_tup3(hs:PySem.W.isStarred a=false)(z6:PySem.W.isStarred b=false)(fM:PySem.W.isStarred c=false)(h:(ev fns glob m).E k sc lp a=some x)(h':(ev fns glob m).E k sc lp b=some y)(tZ:(ev fns glob m).E k sc lp c=some z):(ev fns glob (m+1)).E k sc lp (.Tuple [a,b,c] kd p)=some (.tup [x,y,z]):=by
 refine(?_:(wG (ev fns glob m) k sc lp [a,b,c]).bind (fun ds=>if ds.length<=lim then some (D.tup ds) else none)=_)
 rw[xk hs h (xk z6 h' (uE fM tZ))];rfl
theorem E_tup2(hs:PySem.W.isStarred a=false)(z6:PySem.W.isStarred b=false)(h:(ev fns glob m).E k sc lp a=some x)(h':(ev fns glob m).E k sc lp b=some y):(ev fns glob (m+1)).E k sc lp (.Tuple [a,b] kd p)=some (.tup [x,y]):=by
 refine(?_:(wG (ev fns glob m) k sc lp [a,b]).bind (fun ds=>if ds.length<=lim then some (D.tup ds) else none)=_)
 rw[xk hs h (uE z6 h')];rfl
noncomputable abbrev xb(xs:List Int):D:= .tup [.dictS (di (zl xs 0) (zl xs 1) (zl xs 2) (zl xs 3) (zl xs 4)),.list [],.list ((tf (x8 (xs.getD 5 0 / 4096) 0) (x8 (xs.getD 5 0 / 4096) 1) (x8 (xs.getD 5 0 / 4096) 2) (x8 (xs.getD 5 0 / 4096) 3)).map .str)]
noncomputable abbrev mc(xs:List Int):List Str:=tf (x8 (xs.getD 5 0 / 4096) 0) (x8 (xs.getD 5 0 / 4096) 1) (x8 (xs.getD 5 0 / 4096) 2) (x8 (xs.getD 5 0 / 4096) 3)
noncomputable abbrev rG(xs:List Int):List Str:=rF (zl xs 0) (zl xs 1) (zl xs 2) (zl xs 3) (zl xs 4) (xN xs 0) (xN xs 1) (xN xs 2) (xN xs 3) []
noncomputable def talkE(s:Stmt):Expr:=tw (cW (lA s)) 1
theorem st10e(h1:l "names"=some (.val (jC qA)))(h2:l "modes"=some (.val (.list ((z8 xs).map .int))))(h3:l "spoiled"=some (.val (.list ([xN xs 0,xN xs 1,xN xs 2,xN xs 3,[]].map jC)))):(ev jK jO (n+30)).E true xF (jV l) (talkE (qM 10))=some (jC (rG xs)):=by
 have o:∀k b,k<4->(zm k b).length<=100:=fun k b h=>by have:=xi k b h;exact j8
 refine dC (x:=jC qA) (y:= .list ((z8 xs).map .int)) (z:= .list ([xN xs 0,xN xs 1,xN xs 2,xN xs 3,[]].map jC)) kR kR kD kD kR kR kR kR (jD kR kR (jE h1)) (jD kR kR (jE h2)) (jD kR kR (jE h3)) ?_
 exact jIo (n:=n+4) (zT xs 0) (zT xs 1) (zT xs 2) (zT xs 3) (zT xs 4) (o _ _ kD) (o _ _ kD) (o _ _ kD) (o _ _ kD) (by simp)
theorem st11(h3:l "spoiled"=some (.val (.list ([xN xs 0,xN xs 1,xN xs 2,xN xs 3,[]].map jC)))):(ev jK jO (n+30)).S true xF l (qM 11)=some (.next,jA l "refused" (.val (jC (mc xs)))):=by
 have jw:lim=1000000:=rfl
 have o0:(xN xs 0).length<=2:=xi 0 (x8 (xs.getD 5 0 / 4096) 0) kD
 have o1:(xN xs 1).length<=2:=xi 1 (x8 (xs.getD 5 0 / 4096) 1) kD
 have o2:(xN xs 2).length<=2:=xi 2 (x8 (xs.getD 5 0 / 4096) 2) kD
 have o3:(xN xs 3).length<=2:=xi 3 (x8 (xs.getD 5 0 / 4096) 3) kD
 refine(?_:(ev jK jO (n+30)).S true xF l (.Assign [_] (.BinOp _ _ (.ListComp _ _ _ _) _) _)=_)
 have e:([xN xs 0,xN xs 1,xN xs 2,xN xs 3,[]].flatMap fun q:List Str=>if true then (q.filter fun _=>true).map D.str else [])=(xN xs 0++xN xs 1++xN xs 2++xN xs 3).map .str:=by
  simp[List.filter_eq_self.mpr]
 refine jT (j7 (x:=jC ["no 226 all told"]) (y:=jC (xN xs 0++xN xs 1++xN xs 2++xN xs 3)) kR ((pS jC (fun _=>true) (fun q:List Str=>q) .str (fun _ _=>true) (fun _ p=> .str p) [xN xs 0,xN xs 1,xN xs 2,xN xs 3,[]] (dJ (jD kR kR (jE h3))) kR kR (fun q hq=>by kernel_rfl) (fun q hq=>by kernel_rfl) (fun q hq _=>by kernel_rfl) (fun q hq _ p hp=>by kernel_rfl) (fun q hq _ p hp _=>by kernel_rfl) ?_).trans ?_) ?_) kR kR
 ·rw[e];simp;lia
 ·rw[e];rfl
 ·refine(add_lists (by simp;lia)).trans ?_
  rw[<-List.map_append]
  refine(?_:some (jC _)=_)
  congr 2
theorem yS{jS:Scope}{x y:Str}{d:D}(h:jS.names.lookup x=some .free)(jv:x≠y):jA (jL jS lp) y d x=lp x:=by
 rw[qf jv]
 unfold jL
 rw[if_pos h]
theorem book_ms(xs:List Int):(di (zl xs 0) (zl xs 1) (zl xs 2) (zl xs 3) (zl xs 4)).map (·.2)=(z8 xs).map Mine.pm:=rfl
theorem st12(h1:l "names"=some (.val (jC qA)))(h2:l "modes"=some (.val (.list ((z8 xs).map .int))))(h3:l "refused"=some (.val (jC (mc xs))))(h4:l "told"=some (.val (xb xs))):(ev jK jO (n+30)).S true xF l (qM 12)=some (.next,l):=by
 have jw:lim=1000000:=rfl
 refine(?_:(ev jK jO (n+30)).S true xF l (.If (.Compare _ [_] [.Tuple [.DictComp _ (.Tuple [_,.Subscript _ _ _] _ _) _ _ _,_,_] _ _] _) _ [] _)=_)
 refine(xu (c:=false) (j5 kR (x:=xb xs) (y:=xb xs) (jD kR kR (jP h4)) (E_tup3 kR kR kR (dcomp (fun k:Nat=> .int (k:Int)) (fun _=>true) (fun k=>qA.getD k "") (fun k=>Mine.pm (zl xs k)) (List.range 5) kR kR kR (fun q hq=>by kernel_rfl) ?_ ?_ (by simp;decide) kR) kR (jD kR kR (jP h3))) (jG8 (book_ms xs)))).trans jW
 ·intro k hk _
  have hk:=yQ.mp hk
  exact je kR (x:=jC qA) (y:= .int (k:Int)) (jD kR kR (jP h1:qx l "names"=_)) kR (qI (getD_map hk) kD)
 ·intro k hk _
  have hk:=yQ.mp hk
  refine E_tup2 kR kR kR (je kR (x:= .list ((z8 xs).map .int)) (y:= .int (k:Int)) (jD kR kR (jP h2:qx l "modes"=_)) kR (qI ?_ (by simp[z8];decide)))
  rw[List.map_map,List.getElem?_map,List.getElem?_range hk];rfl
noncomputable def zu(xs:List Int):List (Str×Int):=[("a\"b",zl xs 0),("",zl xs 1),("z",zl xs 2),("\"",zl xs 3),("\"\"",zl xs 4)]
theorem jE8(xs:List Int):∀q∈zu xs,(di (zl xs 0) (zl xs 1) (zl xs 2) (zl xs 3) (zl xs 4)).lookup q.1=some (Mine.pm q.2):=by
 intro q hq
 simp only[zu,List.mem_cons,List.not_mem_nil,or_false] at hq
 rcases hq with rfl|rfl|rfl|rfl|rfl <;> rfl
theorem E_mode{kk:Bool}{p1 p2 p3 p4 p5 p6 p7:Pos}{q:Str×Int}(hq:q∈zu xs)(v1:isVar (sc.names.lookup ("told":Str))=true)(v2:isVar (sc.names.lookup ("name":Str))=true)(h1:lp "told"=some (xb xs))(h2:lp "name"=some (.str q.1)):
  (ev jK jO (m+4)).E kk sc lp (.Subscript (.Subscript (.Subscript (.Name "told" p1) (.Constant (.int 0) 0 p2) p3) (.Name "name" p4) p5) (.Constant (.int 1) 0 p6) p7)=some (.int q.2):=by
 refine je (by rfl) (x:=Mine.pm q.2) (y:= .int 1) (je (by rfl) (x:= .dictS (di (zl xs 0) (zl xs 1) (zl xs 2) (zl xs 3) (zl xs 4))) (y:= .str q.1) (je (by rfl) (x:=xb xs) (y:= .int 0) (jD kD v1 h1) (by rfl) (by rfl)) (jD kD v2 h2) ?_) (by rfl) (by rfl)
 exact jE8 xs q hq
theorem st13(h1:l "names"=some (.val (jC qA)))(h4:l "told"=some (.val (xb xs))):(ev jK jO (n+30)).S true xF l (qM 13)=some (.next,jA l "rights" (.val (.list ((y8 xs).map .int)))):=by
 have jw:lim=1000000:=rfl
 refine(?_:(ev jK jO (n+30)).S true xF l (.Assign [_] (.ListComp (.Call (.Name _ _) [.Subscript (.Subscript (.Subscript _ _ _) _ _) _ _] [] _) _ _ _) _)=_)
 refine jT ((vT (fun q:Str×Int=> .str q.1) (fun q=> .int (Builtin.bitAnd q.2 4095)) (zu xs) (dJ (jD kR kR (jE h1))) kR kR ?_ (by simp[zu];decide)).trans ?_) kR kR
 ·intro q hq
  refine gG (x:= .int q.2) kR kR kD kD kR kR ?_ kR
  refine E_mode (xs:=xs) hq kR kR ?_ ?_
  ·exact(yS kR kD).trans (jE h4)
  ·kernel_rfl
 ·refine(?_:some (D.list [.int (Builtin.bitAnd (zl xs 0) 4095),.int (Builtin.bitAnd (zl xs 1) 4095),.int (Builtin.bitAnd (zl xs 2) 4095),.int (Builtin.bitAnd (zl xs 3) 4095),.int (Builtin.bitAnd (zl xs 4) 4095)])=_)
  rw[zh,zh,zh,zh,zh,gC,gC,gC,gC,gC]
  rfl
theorem st14(h1:l "names"=some (.val (jC qA)))(h2:l "modes"=some (.val (.list ((z8 xs).map .int))))(h3:l "drawn"=some (.val (.list ((y8 xs).map .int))))(h4:l "told"=some (.val (xb xs)))(h5:l "rights"=some (.val (.list ((y8 xs).map .int)))):(ev jK jO (n+30)).S true xF l (qM 14)=some (.next,l):=by
 have jw:lim=1000000:=rfl
 refine(?_:(ev jK jO (n+30)).S true xF l (.If (.BoolOp _ [.Compare _ [_] [_] _,.Compare (.ListComp (.Call (.Name _ _) [.Subscript (.Subscript (.Subscript _ _ _) _ _) _ _] [] _) _ _ _) [_] [.ListComp (.Call (.Name _ _) [_] [] _) _ _ _] _] _) _ [] _)=_)
 refine(xu (c:=false) ((dm (c:=false) (e:=false) ((j5 kR (x:= .list ((y8 xs).map .int)) (y:= .list ((y8 xs).map .int)) (jD kR kR (jP h5)) (jD kR kR (jP h3)) (jZ.int.list.ne kD _ _)).trans (by simp)) ((j5 kR (x:=jC ((z8 xs).map wM)) (y:=jC ((z8 xs).map wM)) ((vT (fun q:Str×Int=> .str q.1) (fun q=> .str (dZ q.2)) (zu xs) (dJ (jD kR kR (jP h1))) kR kR ?_ (by simp[zu];decide)).trans ?_) ((vT .int (fun m=> .str (wM m)) (z8 xs) (dJ (jD kR kR (jP h2))) kR kR ?_ (by simp[z8];decide)).trans ?_) (jZ.strs.ne kD _ _)).trans (by simp))))).trans jW
 ·intro q hq
  exact gG kR kR kD kD kR kR (E_mode hq kR kR ((yS kR kD).trans (jP h4)) kR) (jI2 q.2)
 ·rw[show (fun q:Str×Int=>D.str (dZ q.2))=fun q=>D.str (wM q.2) from funext fun q=>by rw[jC8]]
  rfl
 ·intro m hm
  exact gG kR kR kD kD kR kR kR (jI5 m)
 ·rw[jC,List.map_map];rfl
variable{g s i:Expr}{pr:Pos}
theorem jCf{r:Ev}{args:List Expr}(hk:sc.names.lookup ("reduce":Str)=some .globalImplicit):xc fns glob r k sc lp (.Call (.Name "reduce" pr) args [] p)=md r k sc lp args:=by
 rw[yq,if_neg (not_or.mpr ⟨not_not_intro hk,by decide⟩),if_pos rfl]
theorem jC3{ds as:List D}{d:D}(hk:sc.names.lookup ("reduce":Str)=some .globalImplicit)(hg:vR k sc g=true)(hs:PySem.W.isStarred s=false)(hi:PySem.W.isStarred i=false)(h1:(ev fns glob m).E k sc lp s=some (.list ds))(h2:(ev fns glob m).E k sc lp i=some (.list as))(h:zJ (ev fns glob m) lp g (.list as) ds=some d):
  (ev fns glob (m+1)).E k sc lp (.Call (.Name "reduce" pr) [g,s,i] [] p)=some d:=by
 refine(jCf (glob:=glob) (pr:=pr) (p:=p) hk).trans ?_
 refine(?_:dX (ev fns glob m) k sc lp g s i=_)
 unfold dX
 rw[if_neg (by rw[hg,hs,hi];decide),h1,h2]
 exact h
theorem jC4{ds:List D}{a d:D}(hk:sc.names.lookup ("reduce":Str)=some .globalImplicit)(hg:vR k sc g=true)(hs:PySem.W.isStarred s=false)(h1:(ev fns glob m).E k sc lp s=some (.list (a::ds)))(h:zJ (ev fns glob m) lp g a ds=some d):
  (ev fns glob (m+1)).E k sc lp (.Call (.Name "reduce" pr) [g,s] [] p)=some d:=by
 refine(jCf (glob:=glob) (pr:=pr) (p:=p) hk).trans ?_
 refine(?_:(if vR k sc g=false\/PySem.W.isStarred s=true then none else ((ev fns glob m).E k sc lp s).bind fun d=>d.asList?.bind (pH (ev fns glob m) lp g))=_)
 rw[if_neg (by rw[hg,hs];decide),h1]
 exact h
theorem wD{r:Ev}{ps:Arguments}{body:Expr}{qi:Scope}{q:Pos}{as:List D}{l':Loc}(h:zW (jL qi lp) (ps.args.map (·.arg)) as=some l'):zX r lp (.Lambda ps body qi q) as=r.E false qi l' body:=by
 refine(?_:(zW (jL qi lp) (ps.args.map (·.arg)) as).bind (fun l'=>r.E false qi l' body)=_)
 rw[h];rfl
theorem fold_map{r:Ev}{α β:Type}(ea:β->D)(ex:α->D)(step:β->α->β)(Inv:Nat->β->Prop):∀(xs:List α) (j:Nat) (b:β),Inv j b->(∀j' b x,x∈xs->j<=j'->j'<j+xs.length->Inv j' b->zX r lp g [ea b,ex x]=some (ea (step b x))/\Inv (j'+1) (step b x))->zJ r lp g (ea b) (xs.map ex)=some (ea (xs.foldl step b))
 |[],_,_,_,_=>rfl
 |x::xs,j,b,h,ha=>by
  obtain⟨h1,h2⟩:=ha j b x jk nL (by simp) h
  refine(?_:(zX r lp g [ea b,ex x]).bind (fun a'=>zJ r lp g a' (xs.map ex))=_)
  rw[h1]
  exact fold_map ea ex step Inv xs (j+1) (step b x) h2 fun j' b' x' hx hj iZ hI=>ha j' b' x' (qO _ hx) (by refine xJ ?_ (by assumption);simp+arith) (by simp only[List.length_cons];(refine Nat.lt_of_lt_of_le (by assumption) ?_;simp+arith)) hI
noncomputable def zC(k:Nat):Str:=qA.getD k ""
noncomputable def nQ(xs:List Int)(a b:Nat):Bool:= !decide (a=b)&&decide (Builtin.bitOr (z7 xs a) (z7 xs b)=z7 xs b)
noncomputable def xy(xs:List Int):List (Nat×Nat):=(List.range 5).flatMap fun a=>((List.range 5).filter (nQ xs a)).map fun b=>(a,b)
noncomputable def ja(xs:List Int):List (Nat×Nat):=(xy xs).filter fun q=>decide (q.1<q.2)|| !decide (z7 xs q.1=z7 xs q.2)
noncomputable def jU(xs:List Int):qF:=(ja xs).map fun q=>(zC q.1,zC q.2)
theorem jCy{q:Nat×Nat}(h:q∈xy xs):q.1<5/\q.2<5/\nQ xs q.1 q.2=true:=by
 unfold xy at h
 refine jH (List.mem_flatMap.mp h) fun a ha h=> ?_
 refine lE h ?_;rintro b hb rfl
 obtain⟨h1,h2⟩:=qG.mp hb
 exact⟨yQ.mp ha,yQ.mp h1,h2⟩
theorem kA(xs:List Int):(xy xs).length<=25:=by
 unfold xy
 have h:∀a,(((List.range 5).filter (nQ xs a)).map fun b=>(a,b)).length<=5:=fun a=>by
  rw[List.length_map]
  exact xJ (List.length_filter_le _ _) (by simp)
 have e:List.range 5=[0,1,2,3,4]:=rfl
 conv=>lhs;arg 1;arg 2;rw[e]
 simp only[List.flatMap_cons,List.flatMap_nil,List.length_append,List.length_nil]
 have h0:=h 0;have h1:=h 1;have h2:=h 2;have h3:=h 3;have h4:=h 4
 lia
theorem yr(xs:List Int):(ja xs).length<=25:=xJ (List.length_filter_le _ _) (kA xs)
theorem gF{k:Nat}{kk:Bool}(hb:isSlice b=false)(hn:(ev jK jO m).E kk sc lp a=some (.list ((y8 xs).map .int)))(hk:(ev jK jO m).E kk sc lp b=some (.int (k:Int)))(hk5:k<5):(ev jK jO (m+1)).E kk sc lp (.Subscript a b p)=some (.int (z7 xs k)):=by
 have jw:lim=1000000:=rfl
 refine je hb hn hk (qI ?_ (by simp[y8];decide))
 rw[List.map_map,List.getElem?_map,List.getElem?_range hk5];rfl
theorem st15(h5:l "rights"=some (.val (.list ((y8 xs).map .int)))):(ev jK jO (n+30)).S true xF l (qM 15)=some (.next,jA l "both" (.val (qY (xy xs)))):=by
 have jw:lim=1000000:=rfl
 have e:((List.range 5).flatMap fun q=>if true then ((List.range 5).filter (nQ xs q)).map (fun b=>sa (q,b)) else [])=(xy xs).map sa:=by
  unfold xy
  rw[List.map_flatMap]
  congr 1
  funext q
  rw[List.map_map];rfl
 refine(?_:(ev jK jO (n+30)).S true xF l (.Assign [_] (.ListComp _ _ _ _) _)=_)
 refine jT ((pS (fun k:Nat=> .int (k:Int)) (fun _=>true) (fun _=>List.range 5) (fun k:Nat=> .int (k:Int)) (fun a b=>nQ xs a b) (fun a b=>sa (a,b)) (List.range 5) kR kR kR (fun q hq=>by kernel_rfl) (fun q hq=>by kernel_rfl) (fun q hq _=>by kernel_rfl) ?_ (fun q hq _ p hp _=>by kernel_rfl) ?_).trans ?_) kR kR
 ·intro a ha _ b hb
  have ha:=yQ.mp ha
  have hb:=yQ.mp hb
  refine zL (gj ((j5 kR (x:= .int (a:Int)) (y:= .int (b:Int)) kR kR (v9.ne kD _ _))) (j5 kR (x:= .int (Builtin.bitOr (z7 xs a) (z7 xs b))) (y:= .int (z7 xs b)) (j7 (x:= .int (z7 xs a)) (y:= .int (z7 xs b)) (gF (k:=a) kR (jD kR kR (jE h5:jV l "rights"=_)) kR ha) (gF (k:=b) kR (jD kR kR (jE h5:jV l "rights"=_)) kR hb) kR) (gF (k:=b) kR (jD kR kR (jE h5:jV l "rights"=_)) kR hb) (jZ.int.eq kD _ _)))
 ·rw[e,List.length_map]
  have:=kA xs;exact j8
 ·rw[e];rfl
theorem st16(h5:l "rights"=some (.val (.list ((y8 xs).map .int))))(h6:l "both"=some (.val (qY (xy xs)))):(ev jK jO (n+30)).S true xF l (qM 16)=some (.next,jA l "pairs" (.val (qY (ja xs)))):=by
 have jw:lim=1000000:=rfl
 have hb:=kA xs
 refine(?_:(ev jK jO (n+30)).S true xF l (.Assign [_] (.ListComp _ _ _ _) _)=_)
 refine jT (fk (fun q:Nat×Nat=>(.int (q.1:Int),.int (q.2:Int))) (fun q=>decide (q.1<q.2)|| !decide (z7 xs q.1=z7 xs q.2)) sa (xy xs) (dJ (jD kR kR (jE h6))) kR kR kR ?_ (fun q hq _=>by kernel_rfl) j8) kR kR
 intro q hq
 refine yD (jCy hq) fun h1 h2 _=> ?_
 refine zL (dm ((j5 kR (x:= .int (q.1:Int)) (y:= .int (q.2:Int)) kR kR ?_)) (j5 kR (x:= .int (z7 xs q.1)) (y:= .int (z7 xs q.2)) (gF (k:=q.1) kR (jD kR kR (jE h5:jV l "rights"=_)) kR h1) (gF (k:=q.2) kR (jD kR kR (jE h5:jV l "rights"=_)) kR h2) (jZ.int.ne kD _ _)))
 refine(?_:some (decide ((q.1:Int)<(q.2:Int)))=_)
 congr 1
 rw[Bool.eq_iff_iff,decide_eq_true_eq,decide_eq_true_eq]
 lia
theorem st17(h1:l "names"=some (.val (jC qA)))(h6:l "pairs"=some (.val (qY (ja xs)))):(ev jK jO (n+30)).S true xF l (qM 17)=some (.next,jA l "rows" (.val (j9 (jU xs)))):=by
 have jw:lim=1000000:=rfl
 have hb:=yr xs
 refine(?_:(ev jK jO (n+30)).S true xF l (.Assign [_] (.ListComp (.List [.Subscript _ _ _,.Subscript _ _ _] _) _ _ _) _)=_)
 refine jT ((fk (fun q:Nat×Nat=>(.int (q.1:Int),.int (q.2:Int))) (fun _=>true) (fun q=>yC (zC q.1,zC q.2)) (ja xs) (dJ (jD kR kR (jE h6))) kR kR kR (fun q hq=>by kernel_rfl) ?_ j8).trans ?_) kR kR
 ·intro q hq _
  refine yD (jCy (qG.mp hq).1) fun g1 g2 _=> ?_
  exact jG1 kR kR (je kR (x:=jC qA) (y:= .int (q.1:Int)) (jD kR kR (jE h1:jV l "names"=_)) kR (qI (getD_map g1) kD)) (je kR (x:=jC qA) (y:= .int (q.2:Int)) (jD kR kR (jE h1:jV l "names"=_)) kR (qI (getD_map g2) kD))
 ·rw[List.filter_eq_self.mpr fun _ _=>rfl]
  unfold j9 jU
  rw[List.map_map];rfl
theorem jD8{α β:Type}(f:α->List β)(k:Nat):∀xs:List α,(∀x∈xs,(f x).length<=k)->(xs.flatMap f).length<=k * xs.length
 |[],_=>by simp
 |x::xs,h=>by
  have h1:=h x jk
  have h2:=jD8 f k xs fun y hy=>h y (qO _ hy)
  rw[List.flatMap_cons,List.length_append,List.length_cons,Nat.mul_succ]
  lia
theorem jEl:∀(ones:List qF) (q:List qF×List (List Str)) (w:qF),w∈(ones.foldl xR q).1->w∈q.1\/w∈ones
 |[],q,w,h=> .inl h
 |o::ones,q,w,h=>by
  rw[List.foldl_cons] at h
  rcases jEl ones (xR q o) w h with h|h
  ·unfold xR at h
   split at h
   ·exact .inl h
   ·rcases jq.mp h with h|h
    ·exact .inl h
    ·replace h:=j4.mp h;subst h;exact .inr jk
  ·exact .inr (qO _ h)
theorem jAu{states:List qF}{name:Str}{rows:qF}{w:qF}(h:w∈yN states name rows):∃s∈states,w∈xd name rows s:=by
 rcases jEl _ _ _ h with h|h
 ·cases h
 ·refine jH (List.mem_flatMap.mp h) fun s hs hw=> ?_
  exact⟨s,hs,hw⟩
theorem jAv{states:List qF}{name:Str}{rows:qF}(hf:(rows.filter fun q=>q.1==name).length<=5):(yN states name rows).length<=6 * states.length:=by
 have h1:=u4 (states.flatMap (xd name rows)) ([],[]) rfl
 have h2:=jD8 (xd name rows) 6 states fun s _=>jCi hf
 have:=h1.2
 unfold yN
 simp only[List.length_nil] at this
 lia
theorem jA6(xs:List Int):∀x∈qA,((jU xs).filter fun q=>q.1==x).length<=5:=by
 have h:∀x∈qA,((xy xs).filter fun q=>zC q.1==x).length<=5:=by
  intro x hx
  unfold xy
  have e:List.range 5=[0,1,2,3,4]:=rfl
  conv=>lhs;arg 1;arg 2;arg 2;rw[e]
  simp only[List.flatMap_cons,List.flatMap_nil,List.filter_append,List.length_append,List.filter_nil,List.length_nil]
  have hb:∀a,((((List.range 5).filter (nQ xs a)).map fun b=>(a,b)).filter fun q=>zC q.1==x).length<=if zC a==x then 5 else 0:=fun a=>by
   split
   ·refine xJ (List.length_filter_le _ _) ?_
    rw[List.length_map]
    exact xJ (List.length_filter_le _ _) (by simp)
   ·rename_i jv
    rw[List.filter_eq_nil_iff.mpr]
    ·simp
    ·intro q hq
     refine lE hq ?_;rintro b _ rfl
     exact jv
  have h0:=hb 0;have h1:=hb 1;have h2:=hb 2;have h3:=hb 3;have h4:=hb 4
  have hs:(if zC 0==x then 5 else 0)+((if zC 1==x then 5 else 0)+((if zC 2==x then 5 else 0)+((if zC 3==x then 5 else 0)+(if zC 4==x then 5 else 0))))=5:=by
   clear h0 h1 h2 h3 h4 hb
   revert x
   decide+kernel
  exact xJ (Nat.add_le_add h0 (Nat.add_le_add h1 (Nat.add_le_add h2 (Nat.add_le_add h3 (Nat.add_le_add h4 (Nat.le_refl 0)))))) (Nat.le_of_eq hs)
 intro x hx
 unfold jU ja
 rw[List.filter_map,List.length_map,List.filter_filter]
 refine xJ ?_ (h x hx)
 rw[show ((xy xs).filter fun a=>((fun q:Str×Str=>q.1==x) ∘ fun q=>(zC q.1,zC q.2)) a&&(decide (a.1<a.2)|| !decide (z7 xs a.1=z7 xs a.2)))=((xy xs).filter fun q=>zC q.1==x).filter fun q=>decide (q.1<q.2)|| !decide (z7 xs q.1=z7 xs q.2) by
  rw[List.filter_filter]
  refine List.filter_congr fun q _=> ?_
  exact Bool.and_comm _ _]
 exact List.length_filter_le _ _
noncomputable def jr(rows:qF):List qF:=qA.foldl (fun made name=>yN made name rows) [[]]
theorem st18(h1:l "names"=some (.val (jC qA)))(h6:l "rows"=some (.val (j9 (jU xs)))):(ev jK jO (n+30)).S true xF l (qM 18)=some (.next,jA l "ways" (.val (zF (jr (jU xs))))):=by
 have jw:lim=1000000:=rfl
 refine(?_:(ev jK jO (n+30)).S true xF l (.Assign [_] (.Call (.Name _ _) [.Lambda _ _ _ _,_,_] [] _) _)=_)
 refine jT (jC3 (ds:=qA.map .str) (as:=[.list []]) kR kR kR kR (jD kR kR (jE h1)) kR ?_) kR kR
 refine fold_map (ea:=zF) (ex:= .str) (step:=fun made name=>yN made name (jU xs)) (Inv:=fun j made=>(j<=5->made.length<=6 ^ j)/\∀w∈made,w.length<=j) qA 0 [[]] ⟨fun _=>by simp,by simp⟩ ?_
 rintro j made x hx _ hj ⟨i1,i2⟩
 have hj:j<0+5:=hj
 have hm:made.length<=6 ^ 4:=xJ (i1 (lC zA)) (Nat.pow_le_pow_right kD (zo8 zA))
 have h64:(6:Nat) ^ 4=1296:=by decide
 have hr:=yr xs
 have hc:=jA6 xs x hx
 refine⟨(wD (l':=jA (jA (jL _ (jV l)) "name" (.str x)) "made" (zF made)) rfl).trans ?_,fun h=> ?_,fun w hw=> ?_⟩
 ·refine dC (x:=zF made) (y:= .str x) (z:=j9 (jU xs)) kR kR kD kD kR kR kR kR kR kR (jD kR kR ?_) ?_
  ·exact(sN).trans ((yS kR kD).trans (jE h6))
  ·exact jFw made x (jU xs) (by rw[jU,List.length_map];exact j8) hc j8 fun o ho=>by have:=i2 o ho;lia
 ·have:=jAv (states:=made) hc
  have h2:=i1 (lC zA)
  rw[Nat.pow_succ]
  lia
 ·refine jH (jAu hw) fun s hs hw=> ?_
  have h1:=i2 s hs
  have h2:=jCh hw
  lia
noncomputable def longer(b w:qF):qF:=if b.length<w.length then w else b
noncomputable def qC:List qF->qF
 |[]=>[]
 |w::ws=>ws.foldl longer w
theorem st19{wH:List qF}(h1:l "names"=some (.val (jC qA)))(h6:l "ways"=some (.val (zF wH)))(jv:wH≠[])(hl:wH.length<=10000)(hw:∀w∈wH,w.length<=5)(hn:((qC wH).map (·.1)).Nodup):(ev jK jO (n+30)).S true xF l (qM 19)=some (.next,jA l "lines" (.val (jb (ji qA (qC wH))))):=by
 have jw:lim=1000000:=rfl
 obtain⟨w0,ws,rfl⟩:∃w ws,wH=w::ws:=by
  induction wH using cL with
  |nil=>exact absurd rfl jv
  |cons w ws=>exact⟨w,ws,rfl⟩
 have hbest:∀(ws:List qF) (b:qF),b.length<=5->(∀w∈ws,w.length<=5)->(ws.foldl longer b).length<=5:=by
  intro ws
  induction ws with
  |nil=>intro b h _;exact h
  |cons w ws ih=>
   intro b h hh
   rw[List.foldl_cons]
   refine ih _ ?_ fun v hv=>hh v (qO _ hv)
   unfold longer
   split
   ·exact hh w jk
   ·exact h
 have mX:(qC (w0::ws)).length<=5:=hbest ws w0 (hw _ jk) fun v hv=>hw v (qO _ hv)
 refine(?_:(ev jK jO (n+30)).S true xF l (.Assign [_] (.Call (.Name _ _) [_,.Call (.Name _ _) [.Lambda _ _ _ _,_] [] _] [] _) _)=_)
 refine jT (E_call2 (x:=jC qA) (y:=j9 (qC (w0::ws))) kR kR kD kD kR kR kR (jD kR kR (jE h1)) (jC4 (a:=j9 w0) (ds:=ws.map j9) kR kR kR (jD kR kR (jE h6)) ?_) (lines_val qA (qC (w0::ws)) hn kD j8)) kR kR
 refine fold_map (ea:=j9) (ex:=j9) (step:=longer) (Inv:=fun _ b=>b.length<=5) ws 0 w0 (hw _ jk) ?_
 intro j b w hwm _ _ hb
 have hw5:=hw w (qO _ hwm)
 refine⟨(wD (l':=jA (jA (jL _ (jV l)) "way" (j9 w)) "best" (j9 b)) rfl).trans ?_,?_⟩
 ·refine zx (c:=decide (b.length<w.length)) ((j5 kR (x:= .int (w.length:Int)) (y:= .int (b.length:Int)) ((vt (ds:=w.map yC) kR kR kR kR (by simp;exact j8)).trans (by rw[List.length_map])) ((vt (ds:=b.map yC) kR kR kR kR (by simp;exact j8)).trans (by rw[List.length_map])) ?_)) ?_
  ·refine(?_:some (decide ((w.length:Int) > (b.length:Int)))=_)
   congr 1
   rw[Bool.eq_iff_iff,decide_eq_true_eq,decide_eq_true_eq]
   lia
  ·unfold longer
   by_cases e:b.length<w.length
   ·rw[if_pos e,decide_eq_true e];kernel_rfl
   ·rw[if_neg e,decide_eq_false e];kernel_rfl
 ·unfold longer
  split
  ·exact hw5
  ·exact hb
theorem st20e(h6:l "pairs"=some (.val (qY (ja xs)))):(ev jK jO (n+30)).E true xF (jV l) (lA (qM 20))=some (.list [.int ((yl (ja xs)).1:Int),.int ((yl (ja xs)).2:Int)]):=by
 have hr:=yr xs
 exact gG (x:=qY (ja xs)) kR kR kD kD kR kR (jD kR kR (jE h6)) (jH3 (ja xs) j8)
noncomputable def uh:List (List Str)->List Str
 |[]=>[]
 |w::ws=>ws.foldl (fun a b=>a++b) w
theorem cat_le:∀(ws:List (List Str)) (b:List Str),b.length<=(ws.foldl (fun a b=>a++b) b).length
 |[],b=>Nat.le_refl _
 |w::ws,b=>by
  rw[List.foldl_cons]
  have:=cat_le ws (b++w)
  rw[List.length_append] at this
  (refine xJ ?_ (by assumption);simp+arith)
theorem jEf{r:Ev}(hg:∀a b:List Str,a.length+b.length<=lim->zX r lp g [jC a,jC b]=some (jC (a++b))):∀(ws:List (List Str)) (b:List Str),(ws.foldl (fun a b=>a++b) b).length<64->zJ r lp g (jC b) (ws.map jC)=some (jC (ws.foldl (fun a b=>a++b) b))
 |[],_,_=>rfl
 |w::ws,b,h=>by
  have jw:lim=1000000:=rfl
  rw[List.foldl_cons] at h
  have hle:=cat_le ws (b++w)
  rw[List.length_append] at hle
  refine(?_:(zX r lp g [jC b,jC w]).bind (fun a'=>zJ r lp g a' (ws.map jC))=_)
  rw[hg b w (by lia)]
  exact jEf hg ws (b++w) h
theorem st21{lines:List (List Str)}{w:Nat}(h1:l "names"=some (.val (jC qA)))(h6:l "lines"=some (.val (jb lines)))(h7:l "widest"=some (.val (.int (w:Int))))(jv:lines≠[])(hl:lines.length<=100)(hs:(uh lines).length<64)(hcat:xv (uh lines)=xv qA)(hw:lines.length=w):(ev jK jO (n+30)).S true xF l (qM 21)=some (.next,l):=by
 have jw:lim=1000000:=rfl
 obtain⟨w0,ws,rfl⟩:∃w ws,lines=w::ws:=by
  induction lines using cL with
  |nil=>exact absurd rfl jv
  |cons w ws=>exact⟨w,ws,rfl⟩
 refine(?_:(ev jK jO (n+30)).S true xF l (.If (.BoolOp _ [.Compare (.Call (.Name _ _) [.Call (.Name _ _) [.Lambda _ _ _ _,_] [] _] [] _) [_] [.Call (.Name _ _) [_] [] _] _,.Compare (.Call (.Name _ _) [_] [] _) [_] [_] _] _) _ [] _)=_)
 refine(xu (c:=false) (dm (c:=false) (e:=false) ((j5 kR (x:=jC (xv (uh (w0::ws)))) (y:=jC (xv qA)) (jf (x:=jC (uh (w0::ws))) kR kR kD kD kR kR (jC4 (a:=jC w0) (ds:=ws.map jC) kR kR kR (jD kR kR (jP h6)) ?_) (xl hs)) (jf (x:=jC qA) kR kR kD kD kR kR (jD kR kR (jP h1)) (xl kD)) (jZ.strs.ne kD _ _)).trans (by rw[hcat];simp)) ((j5 kR (x:= .int ((w0::ws).length:Int)) (y:= .int (w:Int)) ((vt (ds:=(w0::ws).map jC) kR kR kR (jD kR kR (jP h6)) (by simp;simp at hl;lia)).trans (by rw[List.length_map])) (jD kR kR (jP h7)) (v9.ne kD _ _)).trans (by rw[hw];simp)))).trans jW
 refine jEf ?_ ws w0 hs
 intro a b sQ
 refine(wD (l':=jA (jA (jL _ (qx l)) "other" (jC b)) "one" (jC a)) rfl).trans ?_
 exact j7 (x:=jC a) (y:=jC b) kR kR ((add_lists (by simp;assumption)).trans (by simp[jC]))
noncomputable def walk(way:qF):Nat->Str->List Str
 |0,x=>[x]
 |k+1,x=>x::(match way.lookup x with|some y=>walk way k y|none=>[])
theorem jGb(way:qF)(k:Nat)(x:Str):∃r,walk way k x=x::r:=by
 induction k using cN with
 |zero=>exact⟨[],rfl⟩
 |succ k=>exact⟨_,rfl⟩
theorem jFn{way:qF}{x:Str}{l:List Str}(h:l≠[]):q7 way (x::l)=x::q7 way l:=by
 unfold q7
 have e:(x::l).getLast? =l.getLast? :=by
  induction l using cL with
  |nil=>exact absurd rfl h
  |cons y l=>rw[List.getLast?_cons_cons]
 rw[e]
 split
 ·split <;> rfl
 ·rfl
theorem jA8(way:qF):∀(k:Nat) (x:Str),q7 way (walk way k x)=walk way (k+1) x
 |0,x=>by
  refine(?_:q7 way [x]=x::(match way.lookup x with|some y=>[y]|none=>[]))
  unfold q7
  refine(?_:(match way.lookup x with|some y=>[x]++[y]|none=>[x])=_)
  cases way.lookup x <;> rfl
 |k+1,x=>by
  refine(?_:q7 way (x::(match way.lookup x with|some y=>walk way k y|none=>[]))=x::(match way.lookup x with|some y=>walk way (k+1) y|none=>[]))
  generalize h:way.lookup x=x0;induction x0 using cO with
  |none=>
   refine(?_:q7 way [x]=[x])
   unfold q7
   refine(?_:(match way.lookup x with|some y=>[x]++[y]|none=>[x])=[x])
   rw[h]
  |some y=>
   refine(?_:q7 way (x::walk way k y)=x::walk way (k+1) y)
   obtain⟨r,hr⟩:=jGb way k y
   rw[jFn (by rw[hr];simp),jA8 way k y]
theorem jFt(names:List Str)(way:qF):ji names way=(names.filter fun x=> !decide (x∈way.map (·.2))).map (walk way names.length):=by
 unfold ji zr
 generalize (names.filter fun x=> !decide (x∈way.map (·.2)))=starts
 have h:∀(ns:List Str) (k:Nat),ns.foldl (fun ls _=>ls.map (q7 way)) (starts.map (walk way k))=starts.map (walk way (k+ns.length)):=by
  intro ns
  induction ns with
  |nil=>intro k;rfl
  |cons n ns ih=>
   intro k
   rw[List.foldl_cons,List.map_map]
   have e:(q7 way ∘ walk way k)=walk way (k+1):=funext fun x=>jA8 way k x
   rw[e,ih (k+1),List.length_cons]
   congr 2
   simp+arith only
 have:=h names 0
 rw[Nat.zero_add] at this
 exact this
structure Way(R:Str->Str->Prop)(names:List Str)(way:qF):Prop where
 f:(way.map (·.1)).Nodup
 s:(way.map (·.2)).Nodup
 r:∀q∈way,R q.1 q.2
 n:∀q∈way,q.1∈names/\q.2∈names
theorem x7{way:qF}{x y:Str}(h:way.lookup x=some y):(x,y)∈way:=by
 induction way with
 |nil=>cases h
 |cons q way ih=>
  obtain⟨a,b⟩:=q
  rw[List.lookup_cons] at h
  generalize e:(x==a)=x0;induction x0 using cT with
  |true=>rw[e] at h;replace h:=j6 h;subst h;rw[eq_of_beq e];exact jk
  |false=>rw[e] at h;exact qO _ (ih h)
theorem jB5{way:qF}(hn:(way.map (·.1)).Nodup){x y:Str}(h:(x,y)∈way):way.lookup x=some y:=by
 induction way with
 |nil=>cases h
 |cons q way ih=>
  obtain⟨a,b⟩:=q
  obtain⟨h1,h2⟩:=y7.mp hn
  rw[List.lookup_cons]
  rcases j0.mp h with e|h'
  ·cases e;simp
  ·have jv:(x==a)=false:=by
    rw[beq_eq_false_iff_ne]
    intro e
    exact h1 (vK.mpr ⟨(x,y),h',e⟩)
   rw[jv]
   exact ih h2 h'
variable{R:Str->Str->Prop}{names:List Str}{way:qF}
theorem Way.nx(W:Way R names way){x y:Str}(h:way.lookup x=some y):R x y/\x∈names/\y∈names:=
 ⟨W.r _ (x7 h),W.n _ (x7 h)⟩
theorem snd_inj(hs:(way.map (·.2)).Nodup){x z y:Str}(h:(x,y)∈way)(g:(z,y)∈way):x=z:=by
 induction way with
 |nil=>cases h
 |cons q way ih=>
  obtain⟨a,b⟩:=q
  obtain⟨h1,h2⟩:=y7.mp hs
  rcases j0.mp h with e|h'
  ·rcases j0.mp g with e2|g'
   ·cases e;cases e2;rfl
   ·have eb:y=b:=congrArg Prod.snd e
    exact absurd (vK.mpr ⟨(z,y),g',eb⟩) h1
  ·rcases j0.mp g with e2|g'
   ·have eb:y=b:=congrArg Prod.snd e2
    exact absurd (vK.mpr ⟨(x,y),h',eb⟩) h1
   ·exact ih h2 h' g'
noncomputable def xf(way:qF):Nat->Str->Option Str
 |0,x=>some x
 |k+1,x=>(xf way k x).bind fun y=>way.lookup y
theorem vC(way:qF):∀(k:Nat) (x:Str),xf way (k+1) x=(way.lookup x).bind fun y=>xf way k y
 |0,x=>by
  refine(?_:way.lookup x=(way.lookup x).bind fun y=>some y)
  cases way.lookup x <;> rfl
 |k+1,x=>by
  refine(?_:(xf way (k+1) x).bind (fun y=>way.lookup y)=_)
  rw[vC way k x]
  cases way.lookup x with
  |none=>rfl
  |some y=>rfl
theorem gH(way:qF)(k:Nat):∀(x z:Str),z∈walk way k x↔∃i,i<=k/\xf way i x=some z:=by
 induction k with
 |zero=>
  intro x z
  refine(?_:z∈[x]↔_)
  rw[j4]
  constructor
  ·rintro rfl;exact⟨0,Nat.le_refl _,rfl⟩
  ·intro y0
   refine jH y0 fun i hi e=> ?_;clear y0
   have:i=0:=by lia
   subst this
   replace e:=j6 e;subst e;rfl
 |succ k ih=>
  intro x z
  refine(?_:z∈x::(match way.lookup x with|some y=>walk way k y|none=>[])↔_)
  rw[List.mem_cons]
  constructor
  ·rintro (rfl|h)
   ·exact⟨0,Nat.zero_le _,rfl⟩
   ·generalize hl:way.lookup x=x0;induction x0 using cO with
    |none=>rw[hl] at h;cases h
    |some y=>
     rw[hl] at h
     refine jH ((ih y z).mp h) fun i hi e=> ?_
     refine⟨i+1,by lia,?_⟩
     rw[vC,hl]
     exact e
  ·intro y0
   refine jH y0 fun i hi e=> ?_;clear y0
   induction i using cN with
   |zero=>(replace e:=j6 e;subst e);exact .inl rfl
   |succ i=>
    right
    rw[vC] at e
    generalize hl:way.lookup x=x0;induction x0 using cO with
    |none=>rw[hl] at e;cases e
    |some y=>
     rw[hl] at e
     exact(ih y z).mpr ⟨i,by lia,e⟩
theorem oZ(O:Ord R)(W:Way R names way):∀(k:Nat) (x:Str),(walk way k x).Pairwise R/\∀z∈walk way k x,z=x\/R x z
 |0,x=>⟨List.pairwise_singleton _ _,fun z hz=> .inl (j4.mp hz)⟩
 |k+1,x=>by
  refine(?_:(x::(match way.lookup x with|some y=>walk way k y|none=>[])).Pairwise R/\∀z∈x::(match way.lookup x with|some y=>walk way k y|none=>[]),z=x\/R x z)
  generalize hl:way.lookup x=x0;induction x0 using cO with
  |none=>exact⟨List.pairwise_singleton _ _,fun z hz=> .inl (j4.mp hz)⟩
  |some y=>
   obtain⟨h1,h2⟩:=oZ O W k y
   have hr:=(W.nx hl).1
   have hb:∀z∈walk way k y,R x z:=fun z hz=>by
    rcases h2 z hz with rfl|h
    ·exact hr
    ·exact O.tr _ _ _ hr h
   refine⟨List.pairwise_cons.mpr ⟨hb,h1⟩,fun z hz=> ?_⟩
   rcases j0.mp hz with rfl|hz
   ·exact .inl rfl
   ·exact .inr (hb z hz)
theorem jCe(W:Way R names way){s t:Str}(hs:s∉way.map (·.2))(ht:t∉way.map (·.2)):∀(i j:Nat) (x:Str),xf way i s=some x->xf way j t=some x->s=t
 |0,0,x,h,g=>by (replace h:=j6 h;subst h);replace g:=j6 g;subst g;rfl
 |0,j+1,x,h,g=>by
  replace h:=j6 h;subst h
  refine bE (show (xf way j t).bind (fun y=>way.lookup y)=some s from g) fun y _ hy=> ?_
  exact absurd (vK.mpr ⟨_,x7 hy,rfl⟩) hs
 |i+1,0,x,h,g=>by
  replace g:=j6 g;subst g
  refine bE (show (xf way i s).bind (fun y=>way.lookup y)=some t from h) fun y _ hy=> ?_
  exact absurd (vK.mpr ⟨_,x7 hy,rfl⟩) ht
 |i+1,j+1,x,h,g=>by
  refine bE (show (xf way i s).bind (fun y=>way.lookup y)=some x from h) fun y hy1 hy=> ?_
  refine bE (show (xf way j t).bind (fun y=>way.lookup y)=some x from g) fun z hz1 hz=> ?_
  have e:=snd_inj W.s (x7 hy) (x7 hz)
  rw[e] at hy1
  exact jCe W hs ht i j z hy1 hz1
theorem back(O:Ord R)(W:Way R names way)(k:Nat):∀(x:Str),x∈names->(∃s i,s∈names/\s∉way.map (·.2)/\i<=k/\xf way i s=some x)\/∃c:List Str,c.length=k+2/\(∀z∈c,z∈names)/\c.Pairwise R/\∀z∈c,z=x\/R z x:=by
 induction k with
 |zero=>
  intro x hx
  by_cases h:x∈way.map (·.2)
  ·right
   refine lE h ?_;rintro q hq rfl
   have hr:=W.r q hq
   refine⟨[q.1,q.2],rfl,fun z hz=> ?_,by simp[hr],fun z hz=> ?_⟩
   ·simp at hz
    rcases hz with rfl|rfl
    ·exact(W.n q hq).1
    ·exact hx
   ·simp at hz
    rcases hz with rfl|rfl
    ·exact .inr hr
    ·exact .inl rfl
  ·exact .inl ⟨x,0,hx,h,Nat.le_refl _,rfl⟩
 |succ k ih=>
  intro x hx
  by_cases h:x∈way.map (·.2)
  ·refine lE h ?_;rintro q hq rfl
   have hr:=W.r q hq
   rcases ih q.1 (W.n q hq).1 with ⟨s,i,h1,h2,h3,h4⟩|⟨c,c1,c2,c3,c4⟩
   ·refine .inl ⟨s,i+1,h1,h2,by lia,?_⟩
    refine(?_:(xf way i s).bind (fun y=>way.lookup y)=_)
    rw[h4]
    exact jB5 W.f hq
   ·right
    have hb:∀z∈c,R z q.2:=fun z hz=>by
     rcases c4 z hz with rfl|hz
     ·exact hr
     ·exact O.tr _ _ _ hz hr
    refine⟨c++[q.2],by simp[c1],fun z hz=> ?_,List.pairwise_append.mpr ⟨c3,List.pairwise_singleton _ _,fun z hz w hw=>by replace hw:=j4.mp hw;subst hw;exact hb z hz⟩,fun z hz=> ?_⟩
    ·rcases jq.mp hz with hz|hz
     ·exact c2 z hz
     ·replace hz:=j4.mp hz;subst hz;exact hx
    ·rcases jq.mp hz with hz|hz
     ·exact .inr (hb z hz)
     ·replace hz:=j4.mp hz;exact .inl hz
  ·exact .inl ⟨x,0,hx,h,Nat.zero_le _,rfl⟩
theorem yt:∀{a b:List Str},a.Nodup->b.Nodup->(∀z,z∈a↔z∈b)->a.Perm b
 |[],b,_,_,h=>by
  induction b using cL with
  |nil=>exact List.Perm.refl _
  |cons y b=>exact absurd ((h y).mpr jk) (by simp)
 |x::a,b,ha,hb,h=>by
  obtain⟨h1,h2⟩:=y7.mp ha
  have hx:x∈b:=(h x).mp jk
  have hp:=List.perm_cons_erase hx
  refine List.Perm.trans (List.Perm.cons x (yt h2 (hb.erase x) fun z=> ?_)) hp.symm
  rw[hb.mem_erase_iff]
  constructor
  ·intro hz
   exact⟨fun e=>h1 (e▸hz),(h z).mp (qO _ hz)⟩
  ·rintro ⟨g1,g2⟩
   rcases j0.mp ((h z).mpr g2) with e|hz
   ·exact absurd e g1
   ·exact hz
theorem ze{a b:List Str}(ha:a.Nodup)(h:∀z∈a,z∈b):a.length<=b.length:=by
 induction a generalizing b with
 |nil=>simp
 |cons x a ih=>
  obtain⟨h1,h2⟩:=y7.mp ha
  have hx:=h x jk
  have:=ih (b:=b.erase x) h2 fun z hz=>(List.mem_erase_of_ne (fun e:z=x=>h1 (e▸hz))).mpr (h z (qO _ hz))
  rw[List.length_erase_of_mem hx] at this
  have ku:0<b.length:=List.length_pos_of_mem hx
  simp only[List.length_cons]
  lia
theorem jAn{α:Type}(p:α->Bool):∀l:List α,(l.filter p).length+(l.filter fun x=> !p x).length=l.length
 |[]=>rfl
 |x::l=>by
  have ih:=jAn p l
  generalize h:p x=x0;induction x0 using cT with
  |true=>rw[List.filter_cons_of_pos h,List.filter_cons_of_neg (by simp[h])];simp only[List.length_cons];lia
  |false=>rw[List.filter_cons_of_neg (by simp[h]),List.filter_cons_of_pos (by simp[h])];simp only[List.length_cons];lia
theorem zk:∀ls:List (List Str),uh ls=ls.flatten
 |[]=>rfl
 |w::ws=>by
  refine(?_:ws.foldl (fun a b=>a++b) w=w++ws.flatten)
  have h:∀(ws:List (List Str)) (w:List Str),ws.foldl (fun a b=>a++b) w=w++ws.flatten:=by
   intro ws
   induction ws with
   |nil=>intro w;simp
   |cons v ws ih=>intro w;rw[List.foldl_cons,ih,List.flatten_cons,List.append_assoc]
  exact h ws w
theorem jDq(O:Ord R)(W:Way R names way)(hn:names.Nodup)(h5:names.length<=5):
  (ji names way).length+way.length=names.length/\(uh (ji names way)).Perm names/\(∀l∈ji names way,l.Pairwise R/\l≠[]):=by
 have hc:∀c:List Str,(∀z∈c,z∈names)->c.Pairwise R->c.length<=names.length:=fun c h1 h2=>by
  refine ze ?_ h1
  exact h2.imp fun {a b} (h:R a b) (e:a=b)=>O.irr a (by rw[<-e] at h;exact h)
 rw[jFt]
 have xo:∀s∈names.filter (fun x=> !decide (x∈way.map (·.2))),s∈names/\s∉way.map (·.2):=fun s hs=>by
  obtain⟨h1,h2⟩:=qG.mp hs
  exact⟨h1,by simpa using h2⟩
 have tg:∀s,s∈names->s∉way.map (·.2)->s∈names.filter (fun x=> !decide (x∈way.map (·.2))):=fun s h1 h2=>qG.mpr ⟨h1,by simpa using h2⟩
 have hlen:(names.filter fun x=> !decide (x∈way.map (·.2))).length+way.length=names.length:=by
  have h1:=jAn (fun x=>decide (x∈way.map (·.2))) names
  have h2:(names.filter fun x=>decide (x∈way.map (·.2))).Perm (way.map (·.2)):=yt (hn.filter _) W.s fun z=>by
   rw[List.mem_filter,decide_eq_true_eq]
   constructor
   ·exact fun h=>h.2
   ·intro h
    refine lE h ?_;rintro q hq rfl
    exact⟨(W.n q hq).2,h⟩
  have h3:=h2.length_eq
  rw[List.length_map] at h3
  lia
 refine⟨by rw[List.length_map];exact hlen,?_,fun l hl=> ?_⟩
 ·rw[zk]
  refine yt ?_ hn fun z=> ?_
  ·refine List.pairwise_flatten.mpr ⟨fun l hl=> ?_,?_⟩
   ·refine lE hl ?_;rintro s hs rfl
    exact(oZ O W names.length s).1.imp fun {a b} (h:R a b) (e:a=b)=>O.irr a (by rw[<-e] at h;exact h)
   ·refine List.pairwise_map.mpr ((hn.filter _).imp_of_mem fun {s t} hs ht jv x hx y hy e=> ?_)
    refine jH ((gH way _ s x).mp hx) fun i _ e1=> ?_
    refine jH ((gH way _ t y).mp hy) fun j _ e2=> ?_
    rw[<-e] at e2
    exact jv (jCe W (xo s hs).2 (xo t ht).2 i j x e1 e2)
  ·rw[List.mem_flatten]
   constructor
   ·intro y0
    refine jH y0 fun l hl hz=> ?_;clear y0
    refine lE hl ?_;rintro s hs rfl
    refine jH ((gH way _ s z).mp hz) fun i _ e=> ?_
    induction i using cN with
    |zero=>(replace e:=j6 e;subst e);exact(xo _ hs).1
    |succ i=>
     refine bE (show (xf way i s).bind (fun y=>way.lookup y)=some z from e) fun y _ hy=> ?_
     exact(W.nx hy).2.2
   ·intro hz
    rcases back O W names.length z hz with ⟨s,i,h1,h2,h3,h4⟩|⟨c,c1,c2,c3,_⟩
    ·exact⟨_,List.mem_map_of_mem (tg s h1 h2),(gH way _ s z).mpr ⟨i,h3,h4⟩⟩
    ·have:=hc c c2 c3;lia
 ·refine lE hl ?_;rintro s hs rfl
  refine⟨(oZ O W names.length s).1,?_⟩
  obtain⟨r,hr⟩:=jGb way names.length s
  rw[hr];simp
theorem gp{a b:List Str}:xv a=xv b↔a.Perm b:=by
 constructor
 ·intro h
  have h1:=List.mergeSort_perm a strLe
  have h2:=List.mergeSort_perm b strLe
  have h:a.mergeSort strLe=b.mergeSort strLe:=h
  exact h1.symm.trans (h▸h2)
 ·intro h
  exact List.Perm.eq_of_pairwise (le:=fun a b=>strLe a b=true) (fun a b _ _ h g=>jAe a b h g) (List.pairwise_mergeSort zN vh a) (List.pairwise_mergeSort zN vh b) ((List.mergeSort_perm a strLe).trans (h.trans (List.mergeSort_perm b strLe).symm))
theorem uU{a b:qF}:yX a=yX b↔(a.map (·.2)).Perm (b.map (·.2)):=gp
theorem jIi(ones:List qF):∀(q:List qF×List (List Str)),q.2=q.1.map yX->(ones.foldl xR q).2=(ones.foldl xR q).1.map yX/\(∀k∈q.2,k∈(ones.foldl xR q).2)/\∀o∈ones,yX o∈(ones.foldl xR q).2:=by
 induction ones with
 |nil=>
  intro q h
  exact⟨h,fun _ h=>h,fun o ho=>by cases ho⟩
 |cons o ones ih=>
  intro q h
  rw[List.foldl_cons]
  have h1:(xR q o).2=(xR q o).1.map yX:=by
   unfold xR
   split
   ·exact h
   ·rw[List.map_append,<-h];rfl
  have h2:∀k∈q.2,k∈(xR q o).2:=fun k hk=>by
   unfold xR
   split
   ·exact hk
   ·exact xn _ hk
  have h3:yX o∈(xR q o).2:=by
   unfold xR
   split
   ·assumption
   ·exact jz _ (j4.mpr rfl)
  refine yD (ih (xR q o) h1) fun g1 g2 g3=> ?_
  refine⟨g1,fun k hk=>g2 k (h2 k hk),fun o' ho=> ?_⟩
  rcases j0.mp ho with rfl|ho
  ·exact g2 _ h3
  ·exact g3 o' ho
theorem jBd{states:List qF}{name:Str}{rows:qF}{s o:qF}(hs:s∈states)(ho:o∈xd name rows s):∃w∈yN states name rows,yX w=yX o:=by
 refine yD (jIi (states.flatMap (xd name rows)) ([],[]) rfl) fun g1 _ g3=> ?_
 have:=g3 o (List.mem_flatMap.mpr ⟨s,hs,ho⟩)
 rw[g1] at this
 refine lE this fun w hw e=> ?_
 exact⟨w,hw,e⟩
structure Match(rows:qF)(p:List Str)(w:qF):Prop where
 f:(w.map (·.1)).Nodup
 s:(w.map (·.2)).Nodup
 r:∀q∈w,q∈rows/\q.1∈p
structure fT(rows:qF)(p:List Str)(made:List qF):Prop where
 ok:∀w∈made,Match rows p w
 all:∀M,Match rows p M->∃w∈made,yX w=yX M
theorem fT.step{rows:qF}{p:List Str}{made:List qF}(h:fT rows p made){x:Str}(hx:x∉p):fT rows (p++[x]) (yN made x rows) where
 ok:=fun w hw=>by
  refine jH (jAu hw) fun s hs hw=> ?_
  have hm:=h.ok s hs
  unfold xd at hw
  rcases j0.mp hw with rfl|hw
  ·exact⟨hm.f,hm.s,fun q hq=>⟨(hm.r q hq).1,xn _ (hm.r q hq).2⟩⟩
  ·refine lE hw ?_;rintro q hq rfl
   obtain⟨lS,aK⟩:=qG.mp hq
   rw[Bool.and_eq_true] at aK
   have e1:q.1=x:=by simpa using aK.1
   have e2:q.2∉s.map (·.2):=by simpa using aK.2
   refine⟨?_,?_,fun q' hq'=> ?_⟩
   ·rw[List.map_append]
    refine List.nodup_append.mpr ⟨hm.f,by simp,fun a ha b hb e=> ?_⟩
    refine lE ha ?_;rintro r hr rfl
    simp only[List.map_cons,List.map_nil,j4] at hb
    have:=(hm.r r hr).2
    rw[e,hb,e1] at this
    exact hx this
   ·rw[List.map_append]
    refine List.nodup_append.mpr ⟨hm.s,by simp,fun a ha b hb e=> ?_⟩
    simp only[List.map_cons,List.map_nil,j4] at hb
    rw[e,hb] at ha
    exact e2 ha
   ·rcases jq.mp hq' with hq'|hq'
    ·exact⟨(hm.r q' hq').1,xn _ (hm.r q' hq').2⟩
    ·replace hq':=j4.mp hq'
     subst hq'
     exact⟨lS,by rw[e1];exact jz _ (j4.mpr rfl)⟩
 all:=fun M hM=>by
  by_cases hex:∃q∈M,q.1=x
  ·refine jH hex fun q hq e=> ?_;clear hex
   have hp:=List.perm_cons_erase hq
   have hf:=hp.map (·.1)
   have hs:=hp.map (·.2)
   rw[List.map_cons] at hf hs
   obtain⟨f1,f2⟩:=y7.mp (hf.nodup_iff.mp hM.f)
   obtain⟨s1,s2⟩:=y7.mp (hs.nodup_iff.mp hM.s)
   refine jH (h.all (M.erase q) ⟨f2,s2,fun r hr=>by
    have px:=hM.r r (List.mem_of_mem_erase hr)
    refine⟨px.1,?_⟩
    rcases jq.mp px.2 with h|h
    ·exact h
    ·replace h:=j4.mp h
     exact absurd (vK.mpr ⟨r,hr,by rw[h,e]⟩) f1⟩) fun w hw hk=> ?_
   have hk:=uU.mp hk
   have hn:q.2∉w.map (·.2):=fun hm=>s1 (hk.mem_iff.mp hm)
   have ho:w++[q]∈xd x rows w:=by
    unfold xd
    refine qO _ (vK.mpr ⟨q,qG.mpr ⟨(hM.r q hq).1,?_⟩,rfl⟩)
    rw[Bool.and_eq_true]
    exact⟨by simpa using e,by simpa using hn⟩
   refine jH (jBd hw ho) fun v hv iF=> ?_
   refine⟨v,hv,iF.trans (uU.mpr ?_)⟩
   rw[List.map_append]
   refine List.Perm.trans ?_ hs.symm
   refine List.Perm.trans List.perm_append_comm ?_
   exact List.Perm.cons _ hk
  ·refine jH (h.all M ⟨hM.f,hM.s,fun r hr=>by
    have px:=hM.r r hr
    refine⟨px.1,?_⟩
    rcases jq.mp px.2 with h|h
    ·exact h
    ·replace h:=j4.mp h
     exact absurd ⟨r,hr,h⟩ hex⟩) fun w hw hk=> ?_
   refine jH (jBd hw (jk:w∈xd x rows w)) fun v hv iF=> ?_
   exact⟨v,hv,iF.trans hk⟩
theorem jDp{rows:qF}:∀(rest p:List Str) (made:List qF),fT rows p made->(p++rest).Nodup->fT rows (p++rest) (rest.foldl (fun made name=>yN made name rows) made)
 |[],p,made,h,_=>by rw[List.append_nil];exact h
 |x::rest,p,made,h,hn=>by
  rw[List.foldl_cons]
  have e:p++x::rest=(p++[x])++rest:=by simp
  rw[e] at hn ⊢
  refine jDp rest (p++[x]) _ (h.step fun hx=> ?_) hn
  have:=(List.nodup_append.mp (List.nodup_append.mp hn).1).2.2 x hx x x9
  exact this rfl
theorem ways_ok{rows:qF}(hr:∀q∈rows,q.1∈qA):fT rows qA (jr rows):=by
 have h:=jDp (rows:=rows) qA [] [[]] ⟨fun w hw=>by replace hw:=j4.mp hw;subst hw;exact⟨by simp,by simp,fun q hq=>by cases hq⟩,fun M hM=>⟨[],x9,by
  induction M using cL with
  |nil=>rfl
  |cons q M=>exact absurd (hM.r q jk).2 (by simp)⟩⟩ kD
 exact h
theorem jC0:∀wH:List qF,wH≠[]->qC wH∈wH/\∀w∈wH,w.length<=(qC wH).length
 |[],h=>absurd rfl h
 |w0::ws,_=>by
  have h:∀(ws:List qF) (b:qF),(ws.foldl longer b=b\/ws.foldl longer b∈ws)/\b.length<=(ws.foldl longer b).length/\∀w∈ws,w.length<=(ws.foldl longer b).length:=by
   intro ws
   induction ws with
   |nil=>intro b;exact⟨.inl rfl,Nat.le_refl _,fun w hw=>by cases hw⟩
   |cons w ws ih=>
    intro b
    rw[List.foldl_cons]
    refine yD (ih (longer b w)) fun i1 i2 i3=> ?_
    have hl:b.length<=(longer b w).length/\w.length<=(longer b w).length/\(longer b w=b\/longer b w=w):=by
     unfold longer
     split
     ·exact⟨(lC zA),Nat.le_refl _,.inr rfl⟩
     ·exact⟨Nat.le_refl _,by lia,.inl rfl⟩
    refine⟨?_,by lia,fun v hv=> ?_⟩
    ·rcases i1 with i1|i1
     ·rw[i1]
      rcases hl.2.2 with e|e
      ·exact .inl e
      ·right;rw[e];exact jk
     ·exact .inr (qO _ i1)
    ·rcases j0.mp hv with rfl|hv
     ·lia
     ·exact i3 v hv
  refine yD (h ws w0) fun h1 h2 h3=> ?_
  refine⟨?_,fun w hw=> ?_⟩
  ·rcases h1 with h1|h1
   ·show ws.foldl longer w0∈_
    rw[h1];exact jk
   ·exact qO _ h1
  ·rcases j0.mp hw with rfl|hw
   ·exact h2
   ·exact h3 w hw
noncomputable def qL(rows:qF)(lines:List (List Str)):List (List Str):=(rows.filter fun q=>decide ((lines.filter fun line=>decide (q.1∈line)&&decide (q.2∈line))=[])).map fun q=>[q.1,q.2]
noncomputable def jn(s:Stmt):Expr:=(binL? (tw (cW (lA s)) 0)).getD (lA s)
noncomputable def rx(e:Expr):Expr:=tw (cW (lcE e)) 0
noncomputable def nF:Expr->Comprehension
 | .ListComp _ (g::_) _ _=>g
 |_=>⟨.Constant .none 0 ⟨0,0,0,0⟩,.Constant .none 0 ⟨0,0,0,0⟩,[],0⟩
noncomputable def oB:Expr->Scope
 | .ListComp _ _ sc _=>sc
 |_=>⟨.function,[],false,false,[]⟩
theorem jCd{xs:List Str}(h:xs.length<=lim):kP (jC xs)=some (jC xs):=by
 refine(?_:(if (strs? (xs.map D.str)).isSome/\(xs.map D.str).length<=lim then some (D.list (xs.map D.str)) else none)=_)
 rw[strs_map,if_pos ⟨rfl,by simpa using h⟩];rfl
variable{rows:qF}{lines:List (List Str)}
theorem st22c(h1:l "rows"=some (.val (j9 rows)))(h2:l "lines"=some (.val (jb lines)))(hr:rows.length<=1000)(hl:lines.length<=1000):
  comp (ev jK jO (n+30)) true (jR xF (oB (jn (qM 22)))) (fun l'=>((ev jK jO (n+30)).E true (jR xF (oB (jn (qM 22)))) l' (rx (jn (qM 22)))).bind kP) [nF (jn (qM 22))] (jL (oB (jn (qM 22))) (jV l)) (rows.map yC)=some (qS (qL rows lines)):=by
 have jw:lim=1000000:=rfl
 refine(?_:compLoop (ev jK jO (n+30)) true _ _ ⟨.Name _ _,_,[.Compare (.ListComp _ _ _ _) [_] [_] _],_⟩ (fun l'=>(((ev jK jO (n+30)).E true (jR xF (oB (jn (qM 22)))) l' (.Name "row" _)).bind kP).map fun x=>[x]) (rows.map yC)=_)
 refine(d9 (emit:=fun l'=>((ev jK jO (n+30)).E true (jR xF (oB (jn (qM 22)))) l' (.Name "row" _)).bind kP) yC (fun q=>decide ((lines.filter fun line=>decide (q.1∈line)&&decide (q.2∈line))=[])) (fun q=>yC q) rows _ kR ?_ ?_).trans ?_
 ·intro q hq
  refine zL ((j5 kR (x:=jb (lines.filter fun line=>decide (q.1∈line)&&decide (q.2∈line))) (y:= .list (([]:List (List Str)).map jC)) ((vS jC (fun line=>decide (q.1∈line)&&decide (q.2∈line)) jC lines (dJ (jD kR kR ?_)) kR kR ?_ (fun line vG _=>by kernel_rfl) j8)) kR (jZ.strs.list.eq kD _ _)))
  ·exact(yS kR kD).trans (jE h2)
  ·intro line vG
   exact zL (gj (j5 kR (x:= .str q.1) (y:=jC line) kR kR (jZ.str.isIn kD _ _)) (j5 kR (x:= .str q.2) (y:=jC line) kR kR (jZ.str.isIn kD _ _)))
 ·intro q hq _
  refine(?_:((ev jK jO (n+30)).E true _ (jA _ "row" (yC q)) (.Name "row" _)).bind kP=_)
  rw[jD kR kR jI]
  exact jCd (xs:=[q.1,q.2]) (by simp;decide)
 ·unfold qL qS
  rw[List.map_map];rfl
theorem st23c(h2:l "lines"=some (.val (jb lines)))(hl:lines.length<=1000)(hi:∀x∈lines,x.length<=1000):
  comp (ev jK jO (n+30)) true (jR xF (oB (jn (qM 23)))) (fun l'=>((ev jK jO (n+30)).E true (jR xF (oB (jn (qM 23)))) l' (rx (jn (qM 23)))).bind kP) [nF (jn (qM 23))] (jL (oB (jn (qM 23))) (jV l)) (lines.map jC)=some (qS lines):=by
 have jw:lim=1000000:=rfl
 refine(?_:compLoop (ev jK jO (n+30)) true _ _ ⟨.Name _ _,_,[],_⟩ (fun l'=>(((ev jK jO (n+30)).E true (jR xF (oB (jn (qM 23)))) l' (.Name "line" _)).bind kP).map fun x=>[x]) (lines.map jC)=_)
 refine(d9 (emit:=fun l'=>((ev jK jO (n+30)).E true (jR xF (oB (jn (qM 23)))) l' (.Name "line" _)).bind kP) jC (fun _=>true) jC lines _ kR (fun _ _=>rfl) ?_).trans ?_
 ·intro q hq _
  refine(?_:((ev jK jO (n+30)).E true _ (jA _ "line" (jC q)) (.Name "line" _)).bind kP=_)
  rw[jD kR kR jI]
  exact jCd (by have:=hi q hq;exact j8)
 ·rw[List.filter_eq_self.mpr fun _ _=>rfl];rfl
theorem jJ8{pi pl:Pos}{ds:List D}(hk:sc.names.lookup ("isinstance":Str)=some .globalImplicit)(hb:sc.names.lookup ("list":Str)=some .globalImplicit)(hs:PySem.W.isStarred a=false)(h1:(ev fns glob m).E k sc lp a=some (.list ds)):
  (ev fns glob (m+1)).E k sc lp (.Call (.Name "isinstance" pi) [a,.Name "list" pl] [] p)=some (.bool true):=by
 refine(yq fns glob (ev fns glob m) k sc lp "isinstance" pi p [a,.Name "list" pl]).trans ?_
 rw[if_neg (not_or.mpr ⟨not_not_intro hk,by decide⟩),if_neg kD,if_pos rfl]
 refine(?_:(if ("list":Str)="list"/\sc.names.lookup ("list":Str)=some .globalImplicit/\PySem.W.isStarred a=false then ((ev fns glob m).E k sc lp a).bind (fun d=>d.asList?.map fun _=>D.bool true) else none)=_)
 rw[if_pos ⟨rfl,hb,hs⟩,h1]
 rfl
theorem st24{out:List Str}(h1:l "names"=some (.val (jC qA)))(h6:l "merged"=some (.val (jC out)))(hl:out.length<64)(hs:xv out=xv qA):(ev jK jO (n+30)).S true xF l (qM 24)=some (.next,l):=by
 have jw:lim=1000000:=rfl
 refine(?_:(ev jK jO (n+30)).S true xF l (.If (.BoolOp _ [.UnaryOp .Not (.Call (.Name "isinstance" _) [_,.Name "list" _] [] _) _,.Compare (.Call (.Name _ _) [_] [] _) [_] [.Call (.Name _ _) [_] [] _] _] _) _ [] _)=_)
 refine(xu (c:=false) (dm (c:=false) (e:=false) (fw (c:=true) ?_) ((j5 kR (x:=jC (xv out)) (y:=jC (xv qA)) (jf (x:=jC out) kR kR kD kD kR kR (jD kR kR (jP h6)) (xl hl)) (jf (x:=jC qA) kR kR kD kD kR kR (jD kR kR (jP h1)) (xl kD)) (jZ.strs.ne kD _ _)).trans (by rw[hs];simp)))).trans jW
 refine(?_:((ev jK jO (n+29)).E true xF (qx l) _).bind kn=_)
 rw[jJ8 kR kR kR (jD kR kR (jP h6))]
 rfl
theorem jHw{jG:List (List Str)}{name:Str}{j:Nat}(h1:jG.length<=j)(h2:∀x∈jG,x.length<=j):(yg jG name rows).length<=j+1/\∀x∈yg jG name rows,x.length<=j+1:=by
 unfold yg
 dsimp only
 have sO:=oT jG ((rows.filter fun q=>q.2==name).map (·.1))
 generalize fJ jG ((rows.filter fun q=>q.2==name).map (·.1))=at' at sO
 constructor
 ·simp only[List.length_append,List.length_take,List.length_drop,List.length_cons,List.length_nil]
  lia
 ·intro x hx
  rcases jq.mp hx with hx|hx
  ·rcases jq.mp hx with hx|hx
   ·have:=h2 x (List.mem_of_mem_take hx);exact(cj zA)
   ·simp only[j4] at hx
    subst hx
    rw[List.length_append,List.length_singleton]
    split
    ·simp
    ·have:=h2 _ (getD_mem (d:=[]) (show at'<jG.length by lia));lia
  ·have:=h2 x (List.mem_of_mem_drop hx);exact(cj zA)
noncomputable def zv(out:List Str)(rows:qF):List (List Str):=out.foldl (fun made name=>yg made name rows) []
variable{out:List Str}
theorem st25(h1:l "rows"=some (.val (j9 rows)))(h6:l "merged"=some (.val (jC out)))(hr:rows.length<=1000)(hl:out.length<=50):(ev jK jO (n+30)).S true xF l (qM 25)=some (.next,jA l "layers" (.val (jb (zv out rows)))):=by
 have jw:lim=1000000:=rfl
 refine(?_:(ev jK jO (n+30)).S true xF l (.Assign [_] (.Call (.Name _ _) [.Lambda _ _ _ _,_,_] [] _) _)=_)
 refine jT (jC3 (ds:=out.map .str) (as:=[]) kR kR kR kR (jD kR kR (jE h6)) kR ?_) kR kR
 refine fold_map (ea:=jb) (ex:= .str) (step:=fun made name=>yg made name rows) (Inv:=fun j made=>made.length<=j/\∀w∈made,w.length<=j) out 0 [] ⟨by simp,by simp⟩ ?_
 rintro j made x hx _ hj ⟨i1,i2⟩
 refine⟨(wD (l':=jA (jA (jL _ (jV l)) "name" (.str x)) "made" (jb made)) rfl).trans ?_,jHw i1 i2⟩
 refine dC (x:=jb made) (y:= .str x) (z:=j9 rows) kR kR kD kD kR kR kR kR kR kR (jD kR kR ?_) ?_
 ·exact(sN).trans ((yS kR kD).trans (jE h1))
 ·exact jJa made x rows (by lia) (fun o ho=>by have:=i2 o ho;lia) hr
theorem jG2{ap cp:Pos}{x:Str}{i:Nat}(g1:zM a=false)(g2:(ap.endLine==cp.line)=true)(g3:PySem.W.isStarred b=false)(h1:(ev jK jO m).E k sc lp a=some (jC out))(h2:(ev jK jO m).E k sc lp b=some (.str x))(hl:out.length<=50)(hi:out.findIdx? (fun y=>y==x)=some i):(ev jK jO (m+1)).E k sc lp (.Call (.Attribute a "index" ap) [b] [] cp)=some (.int (i:Int)):=by
 refine oW g1 g2 kD g3 h1 h2 ?_
 refine(?_:gc (out.map D.str) (.str x)=_)
 unfold gc
 rw[if_pos ⟨by simp;exact j8,by
  rw[List.all_eq_true]
  intro y hy
  refine lE hy ?_;rintro z _ rfl
  rfl⟩,List.findIdx?_map]
 rw[show ((fun y=>D.beq y (.str x)) ∘ D.str)=fun y=>y==x from rfl,hi];rfl
theorem st26{lg:Nat}{jG:List (List Str)}(h1:l "rows"=some (.val (j9 rows)))(h6:l "merged"=some (.val (jC out)))(h7:l "layers"=some (.val (jb jG)))(h8:l "longest"=some (.val (.int (lg:Int))))(hr:rows.length<=1000)(hl:out.length<=50)(iV:jG.length<=1000)(hi:∀q∈rows,∃i j,out.findIdx? (fun y=>y==q.1)=some i/\out.findIdx? (fun y=>y==q.2)=some j/\i<=j)(hg:jG.length=lg):(ev jK jO (n+30)).S true xF l (qM 26)=some (.next,l):=by
 have jw:lim=1000000:=rfl
 refine(?_:(ev jK jO (n+30)).S true xF l (.If (.BoolOp _ [.Compare (.ListComp _ _ _ _) [_] [_] _,.Compare (.Call (.Name _ _) [_] [] _) [_] [_] _] _) _ [] _)=_)
 refine(xu (c:=false) (dm (c:=false) (e:=false) ((j5 kR (x:=j9 (rows.filter fun _=>false)) (y:= .list (([]:qF).map yC)) (vS yC (fun _=>false) yC rows (dJ (jD kR kR (jP h1))) kR kR ?_ (fun q hq h=>by exact zf h) j8) kR (jZ.rows.ne kD _ _)).trans (by simp)) ((j5 kR (x:= .int (jG.length:Int)) (y:= .int (lg:Int)) ((vt (ds:=jG.map jC) kR kR kR (jD kR kR (jP h7)) (by simp;exact j8)).trans (by rw[List.length_map])) (jD kR kR (jP h8)) (v9.ne kD _ _)).trans (by rw[hg];simp)))).trans jW
 intro q hq
 refine zB (hi q hq) fun i j e1 e2 e3=> ?_
 refine zL (j5 kR (x:= .int (i:Int)) (y:= .int (j:Int)) (jG2 kR kR kR (jD kR kR ?_) kR hl e1) (jG2 kR kR kR (jD kR kR ?_) kR hl e2) ?_)
 ·exact(yS kR kD).trans (jP h6)
 ·exact(yS kR kD).trans (jP h6)
 ·refine(?_:some (decide ((i:Int) > (j:Int)))=_)
  rw[decide_eq_false (by lia)]
theorem st27{jG:List (List Str)}(h1:l "rows"=some (.val (j9 rows)))(h7:l "layers"=some (.val (jb jG)))(hr:rows.length<=1000)(iV:jG.length<=1000)(hn:∀ly∈jG,∀q∈rows,¬(q.1∈ly/\q.2∈ly)):(ev jK jO (n+30)).S true xF l (qM 27)=some (.ret (.bool true),l):=by
 have jw:lim=1000000:=rfl
 have e:(jG.flatMap fun ly=>if true then ((rows.filter fun q=>decide (q.1∈ly)&&decide (q.2∈ly)).map yC) else [])=([]:qF).map yC:=by
  refine List.flatMap_eq_nil_iff.mpr fun ly aP=> ?_
  rw[if_pos rfl,List.filter_eq_nil_iff.mpr]
  ·rfl
  ·intro q hq h
   rw[Bool.and_eq_true,decide_eq_true_eq,decide_eq_true_eq] at h
   exact hn ly aP q hq h
 refine(?_:(ev jK jO (n+30)).S true xF l (.Return (some (.Compare (.ListComp _ _ _ _) [_] [_] _)) _)=_)
 refine wV (E_cmp kR (x:= .list (([]:qF).map yC)) (y:= .list (([]:qF).map yC)) ((pS jC (fun _=>true) (fun _=>rows) yC (fun ly q=>decide (q.1∈ly)&&decide (q.2∈ly)) (fun _ q=>yC q) jG (dJ (jD kR kR (jP h7))) kR kR (fun q hq=>by kernel_rfl) (fun q hq=>by kernel_rfl) ?_ ?_ (fun q hq _ p hp _=>by kernel_rfl) ?_).trans ?_) kR ((jZ.row.list.eq kD [] []).trans (by simp)))
 ·intro ly aP _
  refine dJ (jD kR kR ?_)
  exact(yS kR kD).trans (jP h1)
 ·intro ly aP _ q hq
  exact zL (gj (j5 kR (x:= .str q.1) (y:=jC ly) kR kR (jZ.str.isIn kD _ _)) (j5 kR (x:= .str q.2) (y:=jC ly) kR kR (jZ.str.isIn kD _ _)))
 ·rw[e];simp
 ·rw[e]
noncomputable abbrev Cx.bare(C:Cx):Cx:={ C with fns:=[] }
end
section
variable{C:Cx}{n:Nat}{r:Ev}{k:Bool}{A:Around}{env:Env}{Y Y' W J:List Addr}{OL N:yV}{l l':jQ}{s s' s₁ gS s1 s2:Shared}{Z Z':Addr->Prop}
theorem Base.bare(b:Base C):Base C.bare where
 g:=b.g
 b:=b.b
 nolimit:=b.nolimit
 hP:=b.hP
 fn:=fun x f e=>by cases e
 okf:=fun x f e=>by cases e
 gl:=b.gl
 bi:=b.bi
 sys:=b.sys
 red:=b.red
 hd:=b.hd
 bat:=b.bat
 exc:=b.exc
theorem jl.full{h:Heap}(t:jl C.bare h):jl C h:=let ⟨a,b,c,d⟩:=t;⟨a,b,c,d⟩
theorem Gr.full(g:Gr C.bare s)(h:0<s.toks):Gr C s:=⟨g.keep,g.tab.full,fun _=>h⟩
theorem FS.full(bs:Base C)(fs:FS C.bare n k A env Y OL l s)(h:0<s.toks):FS C n k A env Y OL l s where
 pre:=⟨bs,fs.pre.a,⟨fs.pre.eo.kind,fs.pre.eo.glob,fs.pre.eo.bi,fs.pre.eo.cells,fs.pre.eo.lam⟩,fs.pre.gr.full h,fs.pre.hP,fs.pre.hY,fs.pre.hYs,fs.pre.fm,fs.pre.hc,fs.pre.loc⟩
 hP:=fs.hP
 cY:=fs.cY
 own:=⟨fs.own.ne,fs.own.code,fs.own.ex⟩
 wY:=fs.wY
 nY:=fs.nY
 ap:=fs.ap
 cw:=fs.cw
 lst:=fs.lst
theorem jCp{prog:Program}{w:World}{P:Params}{h:Heap}:∀{vs:List Value} {ns:List Int},WellAll P h vs (ofPys (ns.map .int))->∀H:HV,Rs prog w H vs (ns.map .int)
 |_,[],w,_=>by
  cases w;exact .nil
 |_,i::ns,w,H=>by
  have w:WellAll P h _ (.cons (.int i) (ofPys (ns.map .int))):=w
  cases w with
  |cons a b=>
   cases a
   exact .cons (.int i _) (jCp b H)
theorem script_of{prog:Program}{w:World}{P:Params}{h:Heap}{la:Addr}{ns:List Int}(w1:Well P h (.ref la) (ofPy (.list (ns.map .int)))):∃vs,h.get? la=some (jc vs 0)/\∀H:HV,Rs prog w H vs (ns.map .int):=by
 cases w1 with
 |list e a=>exact⟨_,e,jCp a⟩
abbrev EndQ1(C:Cx)(s₁:Shared)(f:Flow)(s':Shared):Prop:=f= .ret (.bool true)/\Gr C.bare s'/\∃h tk,s'={ s₁ with heap:=h,toks:=tk }
theorem law_enter{fn:Fn}{fa la:Addr}{o:Obj}{pm doc:Value}{vs:List Value}{ns:List Int}{c:ClaimW}{cl:Str->Option Addr}{bg:ExcName->Option Value}{args:List WData}(bs:Base C)(h0:C.g0=ghostOf s₁.heap [(C.c,C.P)])(hP:s₁.heap.get? C.P=some (tabObj #[]))(hg:s₁.gens= #[])
  (okf:uc fn=true) (hn:fn.names=(["script"]:List Str)) (ho:s₁.heap.get? fa=some o) (hd:o.data= .func (docDef "law" fn.params fn.body fn.scope pm (.ref C.c) doc)) (hcd:s₁.heap.CodeRec (.ref C.c) "law") (hlq:("law":Str)++(".<locals>.":Str)++("<lambda>":Str)=C.lq)
  (hL:s₁.heap.get? la=some (jc vs 0)) (hI:∀H:HV,Rs C.prog C.w H vs (ns.map .int)) (hpost:c.post args (.bool true) args=true) (hr:∀x,c.raises args x=false) (room:n<=190)
  (body:∀env s,KP C.bare s₁ s->FS C.bare n true (callerA.deeper env) env (jB env++[C.P]) [] (jA (fun _=>none) "script" (.val (.list (ns.map .int)))) s->env.scope=fn.scope->env.frame=some env.locals->(∀p∈env.cells,p.2∈jB env)->
   wpAny C.M (callerA.deeper env) (execs fn.body env) (EndQ1 C s₁) NE s):
  codeAny C.M callerA (.call (.ref fa) ⟨[.ref la],[]⟩) (fun r s'=>GoodW c cl bg args { s₁ with heap:=ghostOf s₁.heap [(C.c,C.P)] } r s'/\GrownAll [(C.c,C.P)] s'.heap) s₁:=by
 have ok:=vr okf
 have gr:Gr C.bare s₁:=⟨fun b o e=>by
  have e:C.g0.get? b=some o:=e
  rw[h0] at e;exact of_hideAll _ e,⟨#[],hP,trivial,fun pos cv e=>by cases e⟩,fun e=>by cases e⟩
 have um:y5 fn.names [.list (ns.map .int)]=some (jA (fun _=>none) "script" (.val (.list (ns.map .int)))):=by rw[hn];rfl
 have aY:claimMargin=300:=by decide+kernel
 have rK:yA n callerA:=⟨rfl,by refine(?_:1+claimMargin+1+3 * n<900);rw[aY];lia,by refine(?_:4+4+40 * n<9000);lia⟩
 have hlP:la≠C.P:=fun e=>by rw[e,hP] at hL;cases hL
 have rd:q5 C.bare s₁.heap [C.P] [.ref la] [.list (ns.map .int)]:= .cons (.list (n:=0) (jX hL (by simpa using hlP)) (hI _)) .nil
 refine codeAny_call_function (fd:=docDef "law" fn.params fn.body fn.scope pm (.ref C.c) doc) (body:=fn.body) (by refine(?_:1+claimMargin<recursionLimit);rw[aY];decide) ho hd ok.co ok.gen rfl hcd ?_
 have hlen:fn.names.length=[Value.ref la].length:=by rw[hn];rfl
 rw[qc ok.plain rfl (by refine(?_:fn.params.args.length=_);simpa [Fn.names] using hlen)]
 refine wpAny_pure (ne ?_)
 refine za (C:=C.bare) (k:=true) (n:=n) (A:=callerA) (Y:=[C.P]) ok bs.bare gr x9 (fun a ha=>by replace ha:=j4.mp ha;subst ha;exact bs.hP) (fun a ha=>by replace ha:=j4.mp ha;subst ha;exact⟨_,hP⟩) (fun env=>rK.deeper) um rd (fun _=>⟨rfl,hlq⟩)
  fun env s1 kp fs dr hc qJ kM=>⟨bs.nolimit.keeps (gr.kp bs.bare kp).keep,codeAny_func ?_⟩
 refine wpAny_mono (body env s1 kp fs qJ kM hc) (fun f s' hq=> ?_) fun _ _ x=>x.elim
 obtain⟨rfl,g',h',tk,rfl⟩:=hq
 refine⟨⟨.inl ⟨.bool true,.bool true,[],rfl,hr,.bool true,hpost,fun _=>⟨List.nodup_nil,fun a ha=>nomatch ha⟩⟩,fun b o e=>g'.keep b o (by rw[<-h0] at e;exact e),rfl,hg⟩,?_,trivial⟩
 obtain⟨ps,e,_⟩:=g'.tab
 exact⟨ps,e⟩
theorem unpack2{v:Value}{a b:D}{Q:List Value->Shared->Prop}(hh:A.handled=none)(hY:∀a∈Y,a<s.heap.objs.size)(rv:RD C s.heap Y v (.list [a,b]))
  (q:∀u1 u2 s',KP C s s'->RD C s'.heap Y u1 a->RD C s'.heap Y u2 b->Q [u1,u2] s'):wpAny C.M A (unpackItems v 2 none) Q NE s:=by
 have lG:=rv
 refine jj lG.list_inv ?_;rintro t vs m rfl ht rs
 have hty:s.TypeIs (.ref t) "list":=(jY ht).typeIs
 unfold unpackItems
 refine wpAny_bind ?_
 unfold notIterableAtAll
 refine wpAny_bind (wpAny_specialOf hty PySem.F.slot_list_iter.lookup ?_)
 refine wpAny_pure ?_
 simp only[Bool.false_eq_true,if_false]
 refine wpAny_bind (wpAny_holding (yL hh hY rv rfl fun h1 nW it1=> ?_))
 generalize hI:s.heap.objs.size=I at it1
 have hIn:s.heap.get? I=none:=hI▸qy _
 have jv:∀b o,s.heap.get? b=some o->b≠I:=fun b o e h=>by rw[h,hIn] at e;exact zn e
 have qQ:∀h:Heap,∀a o,view h (I::Y) a=some o->view h Y a=some o:=fun h=>jh fun a ha=>qO _ ha
 refine wpAny_bind (wpAny_holding ?_)
 refine(?_:wpAny _ _ (pyNext (.ref I) >>=_) _ _ _)
 refine wpAny_bind (gu jk it1 fun u1 h2 t2 aG bK u7 r1=> ?_)
 refine(?_:wpAny _ _ ((holding [u1] (draw (.ref I) 1)) >>=fun x=>pure (u1::x)) _ _ _)
 refine wpAny_bind (wpAny_holding ?_)
 refine(?_:wpAny _ _ (pyNext (.ref I) >>=_) _ _ _)
 refine wpAny_bind (gu jk u7 fun u2 h3 t3 iJ hk3 ey r2=> ?_)
 refine(?_:wpAny _ _ ((holding [u2] (draw (.ref I) 0)) >>=fun x=>pure (u2::x)) _ _ _)
 refine wpAny_bind (wpAny_holding ?_)
 refine(?_:wpAny _ _ (pure []) _ _ _)
 refine wpAny_pure (wpAny_pure (wpAny_pure ?_))
 rw[if_neg (by simp)]
 refine wpAny_bind (wpAny_holding (jD2 ey fun h4 t4 ht4 iY=> ?_))
 simp only[Option.isSome_none,Bool.false_eq_true,if_false]
 refine wpAny_pure (q u1 u2 _ (KP.of (xJ (xJ aG iJ) ht4) fun b o e=>iY b o (jv b o e) (hk3 b o (jv b o e) (bK b o (jv b o e) (nW b o e)))) ?_ ?_)
 ·refine Mine.R.mono (fun a o e=>qQ _ _ _ (yG (fun b o hb e=>iY b o (fun h=>hb (by rw[h];exact jk)) (hk3 b o (fun h=>hb (by rw[h];exact jk)) e)) a o e)) r1
 ·refine Mine.R.mono (fun a o e=>qQ _ _ _ (yG (fun b o hb e=>iY b o (fun h=>hb (by rw[h];exact jk)) e) a o e)) r2
theorem jFe(S:SE C n r){x y:Str}{e:Expr}{a b:D}{kd:Nat}{p1 p2 p3 p4:Pos}{Q:vo}{E:q4}(fs:FS C n k A env Y [] l s)(he:r.E k env.scope (jV l) e=some (.list [a,b]))(hx:env.kindOf x=some .local\/env.kindOf x=some .cell)(hy:env.kindOf y=some .local\/env.kindOf y=some .cell)
  (xo:∀Q E s,wpAny C.M A (eval e env) (fun v s'=>wpAny C.M A (assign (.Tuple [.Name x p1,.Name y p2] kd p3) env v) (fun _ gS=>Q .next gS) E s') E s->wpAny C.M A (exec (.Assign [.Tuple [.Name x p1,.Name y p2] kd p3] e p4) env) Q E s)
  (q:∀s',KW C (ZO [] env) s s'->FS C n k A env Y [] (jA (jA l x (.val a)) y (.val b)) s'->Q .next s'):
  wpAny C.M A (exec (.Assign [.Tuple [.Name x p1,.Name y p2] kd p3] e p4) env) Q E s:=by
 refine xo Q E s (ne (S.at fs.pre he fun v s1 zE p1' rv=>ne ?_))
 rw[arm_assign_Tuple]
 refine wpAny_bind (wpAny_standAt ?_)
 refine(?_:wpAny C.M A (unpack v (assignEach [.Name x p1,.Name y p2] env)) _ NE s1)
 unfold unpack
 have hh:=fs.pre.a.handled
 refine(?_:wpAny C.M A (holding [v] (unpackItems v 2 none) >>=_) _ NE s1)
 refine wpAny_bind (wpAny_holding (unpack2 hh p1'.lt rv fun u1 u2 s2 yf r1 r2=> ?_))
 have xa:=(fs.kp zE).kp yf
 have mY:=xa.pre.hP
 refine assignInOrder_cons (wpAny_assign_Name (xa.assign hx r1 fun s3 vO yB=> ?_))
 have hZ:∀b,ZO [] env b->b∈q6 []++Y:=fun b hb=>by
  have:b∈jB env:=by exact hb
  exact jz _ (fs.wY b this)
 refine assignInOrder_cons (wpAny_assign_Name (yB.assign hy (RD.kw vO mY hZ r2) fun s4 yx yw=>assignInOrder_nil ?_))
 exact q s4 (((KP.kw (zE.trans yf) (Z:=ZO [] env)).trans vO).trans yx) yw
theorem FS.drop(fs:FS C n k A env Y OL l s)(h:∀x ds,l x≠some (.own ds)):FS C n k A env (q6 OL++Y) [] l s where
 pre:=fs.pre
 hP:=jz _ fs.hP
 cY:=fun p hp=>jz _ (fs.cY p hp)
 own:=⟨fun a ha=>fs.own.ne a (jz _ (by exact ha)),fun a ha=>fs.own.code a (jz _ (by exact ha)),fun a ha=>fs.own.ex a (jz _ (by exact ha))⟩
 wY:=fun a ha=>jz _ (fs.wY a ha)
 nY:=fun p hp=>by cases hp
 ap:=List.Pairwise.nil
 cw:=fs.cw
 lst:=fun x ds e=>absurd e (h x ds)
def LA(C:Cx)(n:Nat)(A:Around)(env:Env)(s₁:Shared)(l:jQ)(s:Shared):Prop:=(∃Y,FS C n true A env Y [] l s)/\∃h tk,s={ s₁ with heap:=h,toks:=tk }
theorem LA.kw{s₁:Shared}(x:∃h tk,s={ s₁ with heap:=h,toks:=tk })(k:KW C Z s s'):∃h tk,s'={ s₁ with heap:=h,toks:=tk }:=by
 refine pA x ?_;clear x;rintro h tk rfl
 obtain⟨h1,t1,rfl,_⟩:=k
 exact⟨h1,t1,rfl⟩
def noOwn(l:jQ):Prop:=∀x ds,l x≠some (.own ds)
theorem noOwn.set(h:noOwn l){x:Str}{d:D}:noOwn (jA l x (.val d)):=fun y ds e=>by
 unfold jA at e
 revert e;refine yU (fun _ e=> ?_) fun _ e=> ?_
 ·cases e
 ·exact h y ds e
theorem kY(S:wt C n r){ss rest:List Stmt}{Q:vo}{E:q4}(h:LA C n A env s₁ l s)(hs:qV r true env.scope l ss=some (.next,l'))(hn:noOwn l')(q:∀s',LA C n A env s₁ l' s'->wpAny C.M A (execs rest env) Q E s'):wpAny C.M A (execs (ss++rest) env) Q E s:=by
 obtain⟨⟨Y,fs⟩,hh⟩:=h
 exact ki S.S rest ss [] l l' .next s Q E fs hs fun s' N hN kw bS=>q s' ⟨⟨_,bS.drop hn⟩,LA.kw hh kw⟩
theorem seg_end(S:wt C n r){ss:List Stmt}{Q:vo}{E:q4}{d:D}(h:LA C n A env s₁ l s)(hs:qV r true env.scope l ss=some (.ret d,l'))(q:∀v s' (Y:List Addr),(∃h tk,s'={ s₁ with heap:=h,toks:=tk })->RD C s'.heap Y v d->Gr C s'->Q (.ret v) s'):wpAny C.M A (execs ss env) Q E s:=by
 obtain⟨⟨Y,fs⟩,hh⟩:=h
 refine xY S.S ss [] l l' (.ret d) s Q E fs hs fun v s' kw rd=>q v s' Y (LA.kw hh kw) rd ?_
 refine fs.pre.gr.kw fs.pre.bs kw fun b hb=> ?_
 have:b∈jB env:=by exact hb
 exact fs.pre.hY b (jz _ (fs.wY b this))
theorem vY{x:Str}{p:Pos}{Q E:q4}(q:Q (.str x s.toks) { s with toks:=s.toks+1 }):wpAny C.M A (eval (.Constant (.str x) 0 p) env) Q E s:=by
 rw[eval_Constant]
 exact wpAny_mkText q
theorem jFo{x:Str}{x1 x2 x3 x4 x5:Str}{p0 p1 p2 p3 p4 p5 p6 p7:Pos}{Q:vo}{E:q4}(h:LA C n A env s₁ l s)(hx:env.kindOf x=some .local\/env.kindOf x=some .cell)
  (q:∀s',0<s'.toks->LA C n A env s₁ (jA l x (.val (jC [x1,x2,x3,x4,x5]))) s'->Q .next s'):
  wpAny C.M A (exec (.Assign [.Name x p0] (.List [.Constant (.str x1) 0 p1,.Constant (.str x2) 0 p2,.Constant (.str x3) 0 p3,.Constant (.str x4) 0 p4,.Constant (.str x5) 0 p5] p6) p7) env) Q E s:=by
 obtain⟨⟨Y,fs⟩,hh⟩:=h
 refine wpAny_Assign_Name ?_ (by rfl)
 refine wpAny_List ?_
 have pl:∀(x:Str) (p:Pos),isStarred (.Constant (.str x) 0 p)=false:=fun _ _=>rfl
 refine args_cons (wpAny_mono (vY (args_cons (wpAny_mono (vY (args_cons (wpAny_mono (vY (args_cons (wpAny_mono (vY (args_cons (wpAny_mono (vY (args_nil ⟨by simp;decide,?_⟩)) (fun _ _ x=>x) fun _ _ x=>x) (jN (pl _ _)))) (fun _ _ x=>x) fun _ _ x=>x) (jN (pl _ _)))) (fun _ _ x=>x) fun _ _ x=>x) (jN (pl _ _)))) (fun _ _ x=>x) fun _ _ x=>x) (jN (pl _ _)))) (fun _ _ x=>x) fun _ _ x=>x) (jN (pl _ _))
 refine(?_:wpAny C.M A (storeName env x (.ref s.heap.objs.size)) (fun _=>Q .next) E { s with heap:=s.heap.push (jc [.str x1 s.toks,.str x2 (s.toks+1),.str x3 (s.toks+1+1),.str x4 (s.toks+1+1+1),.str x5 (s.toks+1+1+1+1)] 0),toks:=s.toks+1+1+1+1+1 })
 have kp:KP C s ({ s with heap:=s.heap.push (jc [.str x1 s.toks,.str x2 (s.toks+1),.str x3 (s.toks+1+1),.str x4 (s.toks+1+1+1),.str x5 (s.toks+1+1+1+1)] 0),toks:=s.toks+1+1+1+1+1 }:Shared):=KP.push (by simp+arith only)
 have rd:RD C ({ s with heap:=s.heap.push (jc [.str x1 s.toks,.str x2 (s.toks+1),.str x3 (s.toks+1+1),.str x4 (s.toks+1+1+1),.str x5 (s.toks+1+1+1+1)] 0),toks:=s.toks+1+1+1+1+1 }:Shared).heap (q6 []++Y) (.ref s.heap.objs.size) (jC [x1,x2,x3,x4,x5]):=
  .list (n:=0) (xI (tk:=s.toks) (by exact fs.pre.lt) rfl) (.cons (.str _ _) (.cons (.str _ _) (.cons (.str _ _) (.cons (.str _ _) (.cons (.str _ _) .nil)))))
 have ku:0<({ s with heap:=s.heap.push (jc [.str x1 s.toks,.str x2 (s.toks+1),.str x3 (s.toks+1+1),.str x4 (s.toks+1+1+1),.str x5 (s.toks+1+1+1+1)] 0),toks:=s.toks+1+1+1+1+1 }:Shared).toks:=by refine(?_:0<s.toks+1+1+1+1+1);exact Nat.succ_pos _
 generalize ({ s with heap:=s.heap.push (jc [.str x1 s.toks,.str x2 (s.toks+1),.str x3 (s.toks+1+1),.str x4 (s.toks+1+1+1),.str x5 (s.toks+1+1+1+1)] 0),toks:=s.toks+1+1+1+1+1 }:Shared)=s2 at kp rd ku ⊢
 have xa:=fs.kp kp
 exact ne (xa.assign hx rd fun s3 vO yB=>q s3 (Nat.lt_of_lt_of_le ku vO.toks) ⟨⟨Y,yB⟩,LA.kw (LA.kw hh (KP.kw kp (Z:=fun _=>False))) vO⟩)
theorem LA.full(bs:Base C)(h:LA C.bare n A env s₁ l s)(ht:0<s.toks):LA C n A env s₁ l s:=by
 obtain⟨⟨Y,fs⟩,hh⟩:=h
 exact⟨⟨Y,fs.full bs ht⟩,hh⟩
structure fv(xs:List Int):Prop where
 ne:jr (jU xs)≠[]
 len:(jr (jU xs)).length<=10000
 w5:∀w∈jr (jU xs),w.length<=5
 nd:((qC (jr (jU xs))).map (·.1)).Nodup
 lne:ji qA (qC (jr (jU xs)))≠[]
 llen:(ji qA (qC (jr (jU xs)))).length<=100
 lin:∀x∈ji qA (qC (jr (jU xs))),x.length<=100
 cl:(uh (ji qA (qC (jr (jU xs))))).length<64
 cs:xv (uh (ji qA (qC (jr (jU xs)))))=xv qA
 wide:(ji qA (qC (jr (jU xs)))).length=(yl (ja xs)).1
 mg:∃m out,m<=900/\wc m (ji qA (qC (jr (jU xs)))++qL (jU xs) (ji qA (qC (jr (jU xs)))))=some out/\out.length<=50/\out≠[]/\xv out=xv qA/\
  (∀q∈jU xs,∃i j,out.findIdx? (fun y=>y==q.1)=some i/\out.findIdx? (fun y=>y==q.2)=some j/\i<=j)/\(zv out (jU xs)).length<=1000/\(zv out (jU xs)).length=(yl (ja xs)).2/\∀ly∈zv out (jU xs),∀q∈jU xs,¬(q.1∈ly/\q.2∈ly)
theorem msc1:MSc yj.scope where
 nm:=by decide+kernel
 ok:=fun p2 p3 p4=>by kernel_rfl
theorem jFv:fL.body=[qM 0,qM 1,qM 2]++(qM 3::([qM 4,qM 5,qM 6,qM 7,qM 8,qM 9]++(qM 10::([qM 11,qM 12,qM 13,qM 14,qM 15,qM 16,qM 17,qM 18,qM 19]++(qM 20::([qM 21]++(qM 22::qM 23::[qM 24,qM 25,qM 26,qM 27]))))))):=kR
variable{xC xE:Addr}{ns:List Int}
theorem segB{xs:List Int}{L2:jQ}(nS:xs.length=6)(v2:L2 "numbers"=some (.val (.list (xs.map .int))))(w2:L2 "names"=some (.val (jC qA)))(n2:noOwn L2):
  ∃L5,qV (ev jK jO 60) true xF L2 [qM 4,qM 5,qM 6,qM 7,qM 8,qM 9]=some (.next,L5)/\L5 "names"=some (.val (jC qA))/\L5 "drawn"=some (.val (.list ((y8 xs).map .int)))/\L5 "modes"=some (.val (.list ((z8 xs).map .int)))/\
   L5 "spoiled"=some (.val (.list ([xN xs 0,xN xs 1,xN xs 2,xN xs 3,[]].map jC)))/\noOwn L5:=by
 have a4:=st4 (n:=30) (l:=L2)
 have a5:=st5 (n:=30) (l:=jA L2 "units" (.val (.list (qe.map .int)))) nS jI ((sN).trans v2)
 have a6:=st6 (n:=30) (l:=jA (jA L2 "units" (.val (.list (qe.map .int)))) "common" (.val (.int (nq (xs.getD 5 0))))) nS ((sN).trans jI) ((sN).trans ((sN).trans v2)) jI
 generalize iw:jA (jA L2 "units" (B.val (.list (qe.map .int)))) "common" (.val (.int (nq (xs.getD 5 0))))=L3 at a5 a6
 have v3:L3 "numbers"=some (.val (.list (xs.map .int))):=by rw[<-iw];exact(sN).trans ((sN).trans v2)
 have w3:L3 "names"=some (.val (jC qA)):=by rw[<-iw];exact(sN).trans ((sN).trans w2)
 have n3:noOwn L3:=by rw[<-iw];exact n2.set.set
 have a7:=st7 (n:=30) (l:=jA L3 "drawn" (.val (.list ((y8 xs).map .int)))) nS ((sN).trans v3) jI
 generalize ao:jA (jA L3 "drawn" (B.val (.list ((y8 xs).map .int)))) "modes" (.val (.list ((z8 xs).map .int)))=L4 at a7
 have v4:L4 "numbers"=some (.val (.list (xs.map .int))):=by rw[<-ao];exact(sN).trans ((sN).trans v3)
 have w4:L4 "names"=some (.val (jC qA)):=by rw[<-ao];exact(sN).trans ((sN).trans w3)
 have d4:L4 "drawn"=some (.val (.list ((y8 xs).map .int))):=by rw[<-ao];exact(sN).trans jI
 have m4:L4 "modes"=some (.val (.list ((z8 xs).map .int))):=by rw[<-ao];exact jI
 have n4:noOwn L4:=by rw[<-ao];exact n3.set.set
 have a8:=st8 (n:=30) (l:=L4)
 have a9:=st9 (n:=30) (l:=jA L4 "odd" (.val (.list (rl.map jC)))) nS ((sN).trans v4) jI
 generalize ak:jA (jA L4 "odd" (B.val (.list (rl.map jC)))) "spoiled" (.val (.list ([xN xs 0,xN xs 1,xN xs 2,xN xs 3,[]].map jC)))=L5 at a9
 have w5:L5 "names"=some (.val (jC qA)):=by rw[<-ak];exact(sN).trans ((sN).trans w4)
 have d5:L5 "drawn"=some (.val (.list ((y8 xs).map .int))):=by rw[<-ak];exact(sN).trans ((sN).trans d4)
 have m5:L5 "modes"=some (.val (.list ((z8 xs).map .int))):=by rw[<-ak];exact(sN).trans ((sN).trans m4)
 have p5:L5 "spoiled"=some (.val (.list ([xN xs 0,xN xs 1,xN xs 2,xN xs 3,[]].map jC))):=by rw[<-ak];exact jI
 have n5:noOwn L5:=by rw[<-ak];exact n4.set.set
 exact⟨L5,(jF a4).trans ((jF a5).trans ((jF a6).trans ((jF a7).trans ((jF a8).trans ((jF a9).trans jW))))),w5,d5,m5,p5,n5⟩
theorem segC{xs:List Int}{L6:jQ}(w6:L6 "names"=some (.val (jC qA)))(d6:L6 "drawn"=some (.val (.list ((y8 xs).map .int))))(m6:L6 "modes"=some (.val (.list ((z8 xs).map .int))))
  (p6:L6 "spoiled"=some (.val (.list ([xN xs 0,xN xs 1,xN xs 2,xN xs 3,[]].map jC)))) (t6:L6 "told"=some (.val (xb xs))) (n6:noOwn L6) (P:fv xs):
  ∃fB,qV (ev jK jO 60) true xF L6 [qM 11,qM 12,qM 13,qM 14,qM 15,qM 16,qM 17,qM 18,qM 19]=some (.next,fB)/\fB "names"=some (.val (jC qA))/\fB "pairs"=some (.val (qY (ja xs)))/\fB "rows"=some (.val (j9 (jU xs)))/\
   fB "lines"=some (.val (jb (ji qA (qC (jr (jU xs))))))/\noOwn fB:=by
 have a11:=st11 (n:=30) (l:=L6) (xs:=xs) p6
 generalize sU:jA L6 "refused" (B.val (jC (mc xs)))=L7 at a11
 have w7:L7 "names"=some (.val (jC qA)):=by rw[<-sU];exact(sN).trans w6
 have d7:L7 "drawn"=some (.val (.list ((y8 xs).map .int))):=by rw[<-sU];exact(sN).trans d6
 have m7:L7 "modes"=some (.val (.list ((z8 xs).map .int))):=by rw[<-sU];exact(sN).trans m6
 have t7:L7 "told"=some (.val (xb xs)):=by rw[<-sU];exact(sN).trans t6
 have r7:L7 "refused"=some (.val (jC (mc xs))):=by rw[<-sU];exact jI
 have n7:noOwn L7:=by rw[<-sU];exact n6.set
 have a12:=st12 (n:=30) w7 m7 r7 t7
 have a13:=st13 (n:=30) w7 t7
 generalize sT:jA L7 "rights" (B.val (.list ((y8 xs).map .int)))=L8 at a13
 have w8:L8 "names"=some (.val (jC qA)):=by rw[<-sT];exact(sN).trans w7
 have d8:L8 "drawn"=some (.val (.list ((y8 xs).map .int))):=by rw[<-sT];exact(sN).trans d7
 have m8:L8 "modes"=some (.val (.list ((z8 xs).map .int))):=by rw[<-sT];exact(sN).trans m7
 have t8:L8 "told"=some (.val (xb xs)):=by rw[<-sT];exact(sN).trans t7
 have r8:L8 "rights"=some (.val (.list ((y8 xs).map .int))):=by rw[<-sT];exact jI
 have n8:noOwn L8:=by rw[<-sT];exact n7.set
 have a14:=st14 (n:=30) w8 m8 d8 t8 r8
 have a15:=st15 (n:=30) r8
 have a16:=st16 (n:=30) (l:=jA L8 "both" (.val (qY (xy xs)))) ((sN).trans r8) jI
 generalize iu:jA (jA L8 "both" (B.val (qY (xy xs)))) "pairs" (.val (qY (ja xs)))=L9 at a16
 have w9:L9 "names"=some (.val (jC qA)):=by rw[<-iu];exact(sN).trans ((sN).trans w8)
 have p9:L9 "pairs"=some (.val (qY (ja xs))):=by rw[<-iu];exact jI
 have n9:noOwn L9:=by rw[<-iu];exact n8.set.set
 have a17:=st17 (n:=30) w9 p9
 generalize mz:jA L9 "rows" (B.val (j9 (jU xs)))=L10 at a17
 have eM:L10 "names"=some (.val (jC qA)):=by rw[<-mz];exact(sN).trans w9
 have mJ:L10 "pairs"=some (.val (qY (ja xs))):=by rw[<-mz];exact(sN).trans p9
 have o10:L10 "rows"=some (.val (j9 (jU xs))):=by rw[<-mz];exact jI
 have n10:noOwn L10:=by rw[<-mz];exact n9.set
 have a18:=st18 (n:=30) eM o10
 have a19:=st19 (n:=30) (l:=jA L10 "ways" (.val (zF (jr (jU xs))))) ((sN).trans eM) jI P.ne P.len P.w5 P.nd
 generalize tn:jA (jA L10 "ways" (B.val (zF (jr (jU xs))))) "lines" (.val (jb (ji qA (qC (jr (jU xs))))))=fB at a19
 have eL:fB "names"=some (.val (jC qA)):=by rw[<-tn];exact(sN).trans ((sN).trans eM)
 have eZ:fB "pairs"=some (.val (qY (ja xs))):=by rw[<-tn];exact(sN).trans ((sN).trans mJ)
 have e9:fB "rows"=some (.val (j9 (jU xs))):=by rw[<-tn];exact(sN).trans ((sN).trans o10)
 have iC:fB "lines"=some (.val (jb (ji qA (qC (jr (jU xs)))))):=by rw[<-tn];exact jI
 have lJ:noOwn fB:=by rw[<-tn];exact n10.set.set
 exact⟨fB,(jF a11).trans ((jF a12).trans ((jF a13).trans ((jF a14).trans ((jF a15).trans ((jF a16).trans ((jF a17).trans ((jF a18).trans ((jF a19).trans jW)))))))),eL,eZ,e9,iC,lJ⟩
theorem law1_body(bs:Base C)(hf:C.fns=jK)(hg:C.glob=jO)(X:wK C xC xE)(hns:ns.length<=1000)(P:fv (uG ns)):
  ∀env s,KP C.bare s₁ s->FS C.bare 60 true (callerA.deeper env) env (jB env++[C.P]) [] (jA (fun _=>none) "script" (.val (.list (ns.map .int)))) s->env.scope=fL.scope->env.frame=some env.locals->(∀p∈env.cells,p.2∈jB env)->
   wpAny C.M (callerA.deeper env) (execs fL.body env) (EndQ1 C s₁) NE s:=by
 intro env s kp fs qJ uq xV
 have S0:wt C.bare 60 (ev [] jO 60):=by
  have:=o6 bs.bare 60 60 nL
  rw[show C.bare.glob=jO from hg] at this
  exact this
 have S:wt C 60 (ev jK jO 60):=by
  have:=o6 bs 60 60 nL
  rw[hf,hg] at this
  exact this
 have nS:=jHl ns
 generalize aq:jA (fun _=>none) "script" (B.val (.list (ns.map .int)))=L0 at fs
 have n0:noOwn L0:=by
  rw[<-aq]
  intro x ds e
  unfold jA at e
  revert e;refine yU (fun _ e=> ?_) (fun _ e=> ?_) <;> cases e
 have la0:LA C.bare 60 (callerA.deeper env) env s₁ L0 s:=by
  obtain⟨h',tk,rfl,_⟩:=kp
  exact⟨⟨_,fs⟩,h',tk,rfl⟩
 have v0:L0 "script"=some (.val (.list (ns.map .int))):=by rw[<-aq];exact jI
 clear aq fs kp
 rw[jFv]
 have e0:=stm0 (glob:=jO) (n:=40) v0 hns
 have e1:=vH (glob:=jO) (n:=40) (l:=jA L0 "taken" (.val (.list ((ns.take 60).map .int))))
 have e2:=eQ (glob:=jO) (n:=40) (ns:=ns) (l:=jA (jA L0 "taken" (.val (.list ((ns.take 60).map .int)))) "own" (.val (.list (kq.map .int)))) ((sN).trans jI) jI
 refine kY (C:=C.bare) (l':=jA (jA (jA L0 "taken" (.val (.list ((ns.take 60).map .int)))) "own" (.val (.list (kq.map .int)))) "numbers" (.val (.list ((uG ns).map .int)))) S0 la0 (by rw[qJ];exact(jF e0).trans ((jF e1).trans ((jF e2).trans jW))) n0.set.set.set fun s1 er=> ?_
 generalize hxn:uG ns=xs at *
 have v1:jA (jA (jA L0 "taken" (B.val (.list ((ns.take 60).map .int)))) "own" (.val (.list (kq.map .int)))) "numbers" (.val (.list (xs.map .int))) "numbers"=some (.val (.list (xs.map .int))):=jI
 have n1:noOwn (jA (jA (jA L0 "taken" (B.val (.list ((ns.take 60).map .int)))) "own" (.val (.list (kq.map .int)))) "numbers" (.val (.list (xs.map .int)))):=n0.set.set.set
 generalize jA (jA (jA L0 "taken" (B.val (.list ((ns.take 60).map .int)))) "own" (.val (.list (kq.map .int)))) "numbers" (.val (.list (xs.map .int)))=L1 at er v1 n1
 clear e0 e1 e2 v0 n0 la0
 have yZ:∀x:Str,(env.scope.names.lookup x=some .local\/env.scope.names.lookup x=some .cell)->env.kindOf x=some .local\/env.kindOf x=some .cell:=fun x h=>h
 refine wpAny_execs_cons ?_
 refine(?_:wpAny C.M _ (exec (.Assign [.Name "names" _] (.List [.Constant (.str _) 0 _,.Constant (.str _) 0 _,.Constant (.str _) 0 _,.Constant (.str _) 0 _,.Constant (.str _) 0 _] _) _) env) _ _ _)
 refine jFo (C:=C.bare) er (yZ _ (by rw[qJ];decide+kernel)) fun s2 aG nv=> ?_
 have nv:=nv.full bs aG
 have v2:jA L1 "names" (B.val (jC qA)) "numbers"=some (.val (.list (xs.map .int))):=(sN).trans v1
 have w2:jA L1 "names" (B.val (jC qA)) "names"=some (.val (jC qA)):=jI
 have n2:noOwn (jA L1 "names" (B.val (jC qA))):=n1.set
 have nv:LA C 60 (callerA.deeper env) env s₁ (jA L1 "names" (B.val (jC qA))) s2:=nv
 generalize jA L1 "names" (B.val (jC qA))=L2 at nv v2 w2 n2
 clear er v1 n1
 refine e1_6 (segB nS v2 w2 n2) fun L5 rB w5 d5 m5 p5 n5=> ?_
 refine kY (l':=L5) S nv (by rw[qJ];exact rB) n5 fun s3 la3=> ?_
 clear rB nv v2 w2 n2
 refine wpAny_execs_cons ?_
 refine fR (bs.fn "_law_heard" zU (by rw[hf];rfl)) fun afh oh pmh codeh doch hmh hoh hdh hch=> ?_
 obtain⟨⟨Y3,yB⟩,hh3⟩:=la3
 have run:=jIm (C:=C) hf (glob:=jO) (n:=35) (b0:=x8 (xs.getD 5 0 / 4096) 0) (b1:=x8 (xs.getD 5 0 / 4096) 1) (b2:=x8 (xs.getD 5 0 / 4096) 2) (b3:=x8 (xs.getD 5 0 / 4096) 3) (zT xs 0) (zT xs 1) (zT xs 2) (zT xs 3) (zT xs 4)
 refine xQ run.fun fun st g0 g1 g2=> ?_
 have aY:claimMargin=300:=by decide+kernel
 have rK:∀j,j<=150->yA j (callerA.deeper env):=fun j hj=>⟨rfl,by refine(?_:1+claimMargin+1+1+3 * j<900);rw[aY];lia,by refine(?_:4+3+4+40 * j<9000);lia⟩
 refine(?_:wpAny C.M _ (exec (.Assign [.Name "told" _] (.Call (.Name "reduce" _) [.Name "_law_heard" _,talkE (qM 10),.Tuple [.Dict [] [] _,.List [] _,.List [] _] 0 _] [] _) _) env) _ _ _)
 refine jG7 S S.E hrd1 X hoh hdh hch hmh kD yB (rK _ kD) rfl uq (yZ _ (by rw[qJ];decide+kernel)) (by refine(?_:env.scope.names.lookup _=_);rw[qJ];decide+kernel) (by refine(?_:env.scope.names.lookup _=_);rw[qJ];decide+kernel) (its:=(rG xs).map .str) (st:=st) (by rw[qJ];exact st10e (n:=30) w5 m5 p5) kR g0 g2 fun s4 yx yw=> ?_
 have el:LA C 60 (callerA.deeper env) env s₁ (jA L5 "told" (.val (xb xs))) s4:=by
  refine⟨⟨Y3,?_⟩,LA.kw hh3 yx⟩
  have e:((rG xs).map D.str).length=(rG xs).length:=List.length_map _
  rw[e,g1] at yw
  exact yw
 clear yB yw g0 g1 g2 run
 have w6:jA L5 "told" (B.val (xb xs)) "names"=some (.val (jC qA)):=(sN).trans w5
 have d6:jA L5 "told" (B.val (xb xs)) "drawn"=some (.val (.list ((y8 xs).map .int))):=(sN).trans d5
 have m6:jA L5 "told" (B.val (xb xs)) "modes"=some (.val (.list ((z8 xs).map .int))):=(sN).trans m5
 have p6:jA L5 "told" (B.val (xb xs)) "spoiled"=some (.val (.list ([xN xs 0,xN xs 1,xN xs 2,xN xs 3,[]].map jC))):=(sN).trans p5
 have t6:jA L5 "told" (B.val (xb xs)) "told"=some (.val (xb xs)):=jI
 have n6:noOwn (jA L5 "told" (B.val (xb xs))):=n5.set
 generalize jA L5 "told" (B.val (xb xs))=L6 at el w6 d6 m6 p6 t6 n6
 refine e1_6 (segC w6 d6 m6 p6 t6 n6 P) fun fB rC eL eZ e9 iC lJ=> ?_
 have hrl:(jU xs).length<=25:=by rw[jU,List.length_map];exact yr xs
 obtain⟨c1,c2,c3,c4,c5,c6,c7,c8,c9,c10,c11⟩:=P
 generalize jU xs=rows at *
 generalize jr rows=wH at *
 generalize ji qA (qC wH)=lines at *
 refine kY (l':=fB) S el (by rw[qJ];exact rC) lJ fun s5 la5=> ?_
 clear rC el w6 d6 m6 p6 t6 n6
 refine wpAny_execs_cons ?_
 obtain⟨⟨Y5,kW⟩,hh5⟩:=la5
 refine(?_:wpAny C.M _ (exec (.Assign [.Tuple [.Name "widest" _,.Name "longest" _] _ _] _ _) env) _ _ _)
 refine jFe S.E kW (by rw[qJ];exact st20e (n:=30) eZ) (yZ _ (by rw[qJ];decide+kernel)) (yZ _ (by rw[qJ];decide+kernel)) (fun Q E s h=>wpAny_Assign_stores h (by rfl) (by rfl)) fun s6 ny rA=> ?_
 generalize yl (ja xs)=gg at *
 generalize fO:jA (jA fB "widest" (B.val (.int (gg.1:Int)))) "longest" (.val (.int (gg.2:Int)))=fA at rA
 have la6:LA C 60 (callerA.deeper env) env s₁ fA s6:=⟨⟨Y5,rA⟩,LA.kw hh5 ny⟩
 have w12:fA "names"=some (.val (jC qA)):=by rw[<-fO];exact(sN).trans ((sN).trans eL)
 have e8:fA "rows"=some (.val (j9 rows)):=by rw[<-fO];exact(sN).trans ((sN).trans e9)
 have i12:fA "lines"=some (.val (jb lines)):=by rw[<-fO];exact(sN).trans ((sN).trans iC)
 have f12:fA "widest"=some (.val (.int (gg.1:Int))):=by rw[<-fO];exact(sN).trans jI
 have g12:fA "longest"=some (.val (.int (gg.2:Int))):=by rw[<-fO];exact jI
 have n12:noOwn fA:=by rw[<-fO];exact lJ.set.set
 clear kW rA ny hh5 fO
 have a21:=st21 (n:=30) w12 i12 f12 c5 c6 c8 c9 c10
 refine kY (l':=fA) S la6 (by rw[qJ];exact(jF a21).trans jW) n12 fun s7 la7=> ?_
 clear a21 la6
 obtain⟨mm,out,b1,b2,b3,b4,b5,b6,b7,b8,b9⟩:=c11
 refine wpAny_execs_cons ?_
 obtain⟨⟨Y7,dz⟩,hh7⟩:=la7
 have bV:yW 61 (callerA.deeper env):=⟨rfl,by refine(?_:1+claimMargin+1+3 * 61<900);rw[aY];decide,by refine(?_:4+3+40 * 61<9000);decide⟩
 have du:∀ce:Env,ce.scope=jR env.scope (oB (jn (qM 22)))->ce.kindOf "list"=some .globalImplicit:=fun ce h=>by
  refine(?_:ce.scope.names.lookup _=_)
  rw[h,qJ];decide+kernel
 have hkl2:∀ce:Env,ce.scope=jR env.scope (oB (jn (qM 23)))->ce.kindOf "list"=some .globalImplicit:=fun ce h=>by
  refine(?_:ce.scope.names.lookup _=_)
  rw[h,qJ];decide+kernel
 refine(?_:wpAny C.M _ (exec (.Assign [.Name "across" _] (.ListComp (.Call (.Name "list" _) [rx (jn (qM 22))] [] _) (nF (jn (qM 22))::[]) (oB (jn (qM 22))) _) _) env) _ _ _)
 have k22:=st22c (n:=30) (l:=fA) e8 i12 j8 j8
 have k23:=fun(l:jQ) (h:l "lines"=some (.val (jb lines)))=>st23c (n:=30) (l:=l) h j8 (fun x hx=>by have:=c7 x hx;exact j8)
 refine jFc (xss:=qL rows lines) (its:=rows.map yC) (d:=j9 rows) (emitD:=fun l'=>((ev jK jO 60).E true (jR xF (oB (jn (qM 22)))) l' (rx (jn (qM 22)))).bind kP) S.E bV (fun ce nc=> ?_) dz (by rw[qJ];exact jD (n:=59) kR kR (jE e8)) rfl (by rw[qJ];kernel_rfl) (by rw[qJ];exact k22) ?_ ?_ (by refine(?_:env.scope.names.lookup _=_);rw[qJ];decide+kernel) fun hs s8 sk bR ll8 hn8 nd8=> ?_
 ·have cH:ce.scope=jR xF (oB (jn (qM 22))):=by rw[nc,qJ]
  rw[<-cH]
  exact jBh S.E (du ce nc) kR
 ·refine(?_:(qL rows lines).length<=lim)
  unfold qL
  rw[List.length_map]
  have jw:lim=1000000:=rfl
  exact xJ (List.length_filter_le _ _) j8
 ·have hkd:=dz.pre.eo.kind
  refine(?_:(pure (env.blockKind== .function&&env.kindOf ("across":Str)==some .local&&_&& !((oB (jn (qM 22))).names.any fun(n,k)=>n==("across":Str)&&(k== .local||k== .cell))):Sem Bool)=pure true)
  have e1:env.blockKind= .function:=by
   unfold Env.blockKind
   rw[qJ];kernel_rfl
  have e2:env.kindOf ("across":Str)=some .local:=by refine(?_:env.scope.names.lookup _=_);rw[qJ];decide+kernel
  rw[e1,e2]
  kernel_rfl
 have w13:jA fA "across" (B.val (.list (qj hs))) "names"=some (.val (jC qA)):=(sN).trans w12
 have o13:jA fA "across" (B.val (.list (qj hs))) "rows"=some (.val (j9 rows)):=(sN).trans e8
 have iB:jA fA "across" (B.val (.list (qj hs))) "lines"=some (.val (jb lines)):=(sN).trans i12
 have g13:jA fA "across" (B.val (.list (qj hs))) "longest"=some (.val (.int (gg.2:Int))):=(sN).trans g12
 have y13:jA fA "across" (B.val (.list (qj hs))) "across"=some (.val (.list (qj hs))):=jI
 have n13:noOwn (jA fA "across" (B.val (.list (qj hs)))):=n12.set
 have hh8:=LA.kw hh7 sk
 generalize jA fA "across" (B.val (.list (qj hs)))=bW at bR w13 o13 iB g13 y13 n13
 refine fR (bs.fn "_c3_merge" yj (by rw[hf];rfl)) fun afc oc pmc codec docc hmc tC sJ mV=> ?_
 have c3:C3At C (ev jK jO 60) "_c3_merge" yj (ow yj.body) (pT yj.body) afc oc pmc codec docc:=⟨c3f1,tC,sJ,mV,hmc,by decide,jJx jK jO 58⟩
 have hYe:∀a∈hs,a∉Y7:=fun a ha hm=>by
  obtain⟨oo,e⟩:=dz.pre.hYs a (jz _ hm)
  rw[hn8 a ha] at e;exact zn e
 have sP:(qL rows lines).length<=25:=by
  unfold qL
  rw[List.length_map]
  exact xJ (List.length_filter_le _ _) hrl
 have hae:∀x∈qL rows lines,x.length=2:=fun x hx=>by
  refine lE hx ?_;rintro q _ rfl
  rfl
 refine wpAny_execs_cons ?_
 refine(?_:wpAny C.M _ (exec (.Assign [.Name "merged" _] (.Call (.Name "_c3_merge" _) [.BinOp (.ListComp (.Call (.Name "list" _) [rx (jn (qM 23))] [] _) (nF (jn (qM 23))::[]) (oB (jn (qM 23))) _) .Add (.Name "across" _) _] [] _) _) env) _ _ _)
 refine jEz (xs1:=lines) (xs2:=qL rows lines) (i1:=lines.map jC) (d1:=jb lines) (out:=out) (em1:=fun l'=>((ev jK jO 60).E true (jR xF (oB (jn (qM 23)))) l' (rx (jn (qM 23)))).bind kP) S S.E bV c3 (rK _ kD) bR (fun ce nc=> ?_) (by rw[qJ];exact jD (n:=59) kR kR (jE iB)) rfl (by rw[qJ];kernel_rfl) (by rw[qJ];exact k23 bW iB) j8 y13 ⟨by decide,by decide⟩ ll8 hYe nd8 j8 dz.hP dz.cY dz.wY (.inl b4) (fun z6 kL hlen=> ?_) (yZ _ (by rw[qJ];decide+kernel)) (by refine(?_:env.scope.names.lookup _=_);rw[qJ];decide+kernel) fun s9 eu mB=> ?_
 ·have cH:ce.scope=jR xF (oB (jn (qM 23))):=by rw[nc,qJ]
  rw[<-cH]
  exact jBh S.E (hkl2 ce nc) kR
 ·have hm:=jHq (fns:=jK) (glob:=jO) (n:=50) (p:=fun k=>posM1.getD k ⟨0,0,0,0⟩) msc1 (by decide+kernel) mm z6 (yR z6 (lines++qL rows lines)) [] out (by rw[gz z6 _ kL hlen];exact b2) kL (fun a ha=>jH8 ha) (by rw[hlen,List.length_append];lia) (fun a ha=> ?_) (by simp;exact j8)
  ·rw[mid1]
   exact hm
  ·have qu:yR z6 (lines++qL rows lines) a∈lines++qL rows lines:=by
    have e:=gz z6 (lines++qL rows lines) kL hlen
    have h2:yR z6 (lines++qL rows lines) a∈z6.map (yR z6 (lines++qL rows lines)):=List.mem_map_of_mem ha
    rw[e] at h2
    exact h2
   rcases jq.mp qu with h|h
   ·have:=c7 _ h;exact j8
   ·have:=hae _ h;lia
 have la9:LA C 60 (callerA.deeper env) env s₁ (jA bW "merged" (.val (jC out))) s9:=⟨⟨Y7,mB⟩,LA.kw hh8 eu⟩
 have w14:jA bW "merged" (B.val (jC out)) "names"=some (.val (jC qA)):=(sN).trans w13
 have lI:jA bW "merged" (B.val (jC out)) "rows"=some (.val (j9 rows)):=(sN).trans o13
 have g14:jA bW "merged" (B.val (jC out)) "longest"=some (.val (.int (gg.2:Int))):=(sN).trans g13
 have lK:jA bW "merged" (B.val (jC out)) "merged"=some (.val (jC out)):=jI
 generalize jA bW "merged" (B.val (jC out))=L14 at la9 w14 lI g14 lK
 have a24:=st24 (n:=30) w14 lK (zo15 zA zD) b5
 have a25:=st25 (n:=30) lI lK j8 (by assumption)
 have a26:=st26 (n:=30) (l:=jA L14 "layers" (.val (jb (zv out rows)))) (lg:=gg.2) ((sN).trans lI) ((sN).trans lK) jI ((sN).trans g14) j8 (by assumption) b7 b6 b8
 have a27:=st27 (n:=30) (l:=jA L14 "layers" (.val (jb (zv out rows)))) ((sN).trans lI) jI j8 b7 b9
 refine seg_end (d:= .bool true) S la9 (by
  rw[qJ]
  exact(jF a24).trans ((jF a25).trans ((jF a26).trans (kh a27)))) fun v s' Y hsh rd gr=> ?_
 have hv:=rd.bool_inv
 subst hv
 exact⟨rfl,⟨gr.keep,(let ⟨a,b,c,d⟩:=gr.tab;⟨a,b,c,d⟩),fun e=>by cases e⟩,hsh⟩
theorem or_nat{x y:Int}(hx:0<=x)(hy:0<=y):Builtin.bitOr x y=((x.toNat|||y.toNat:Nat):Int):=by
 have h1:decide (0<=Builtin.bitNot x)=false:=by unfold Builtin.bitNot;rw[decide_eq_false_iff_not];lia
 have h2:decide (0<=Builtin.bitNot y)=false:=by unfold Builtin.bitNot;rw[decide_eq_false_iff_not];lia
 unfold Builtin.bitOr Builtin.bitAnd
 rw[h1,h2]
 refine(?_:Builtin.bitNot (Builtin.bitNot ((Builtin.bitNot (Builtin.bitNot x)).toNat|||(Builtin.bitNot (Builtin.bitNot y)).toNat:Nat))=_)
 have e:∀z:Int,Builtin.bitNot (Builtin.bitNot z)=z:=fun z=>by unfold Builtin.bitNot;simp+arith only
 rw[e,e,e]
def bY(xs:List Int)(a b:Nat):Prop:=(z7 xs a).toNat|||(z7 xs b).toNat=(z7 xs b).toNat
theorem jGf{xs:List Int}{a b:Nat}:Builtin.bitOr (z7 xs a) (z7 xs b)=z7 xs b↔bY xs a b:=by
 have ha:=gf xs a
 have hb:=gf xs b
 rw[or_nat ha.1 hb.1]
 unfold bY
 lia
theorem dr_eq{xs:List Int}{a b:Nat}:z7 xs a=z7 xs b↔(z7 xs a).toNat=(z7 xs b).toNat:=
 ⟨fun e=>by rw[e],fun e=>by rw[<-Int.toNat_of_nonneg (gf xs a).1,<-Int.toNat_of_nonneg (gf xs b).1,e]⟩
def rP(xs:List Int)(a b:Nat):Prop:=a≠b/\bY xs a b/\(a<b\/(z7 xs a).toNat≠(z7 xs b).toNat)
theorem qH{xs:List Int}{q:Nat×Nat}:q∈ja xs↔q.1<5/\q.2<5/\rP xs q.1 q.2:=by
 unfold ja xy rP
 rw[List.mem_filter,Bool.or_eq_true,decide_eq_true_eq,Bool.not_eq_true',decide_eq_false_iff_not,dr_eq]
 constructor
 ·rintro ⟨h,h2⟩
  refine jH (List.mem_flatMap.mp h) fun a ha h=> ?_
  refine lE h ?_;rintro b hb rfl
  obtain⟨h1,h3⟩:=qG.mp hb
  unfold nQ at h3
  rw[Bool.and_eq_true,Bool.not_eq_true',decide_eq_false_iff_not,decide_eq_true_eq,jGf] at h3
  exact⟨yQ.mp ha,yQ.mp h1,h3.1,h3.2,h2⟩
 ·intro y0
  refine fS y0 fun h1 h2 h3 h4 h5=> ?_;clear y0
  refine⟨List.mem_flatMap.mpr ⟨q.1,yQ.mpr h1,vK.mpr ⟨q.2,qG.mpr ⟨yQ.mpr h2,?_⟩,rfl⟩⟩,h5⟩
  unfold nQ
  rw[Bool.and_eq_true,Bool.not_eq_true',decide_eq_false_iff_not,decide_eq_true_eq,jGf]
  exact⟨h3,h4⟩
theorem jC7(xs:List Int):(ja xs).Nodup:=by
 unfold ja xy
 refine List.Pairwise.filter _ ?_
 refine List.pairwise_flatMap.mpr ⟨fun a _=> ?_,?_⟩
 ·refine List.pairwise_map.mpr ((List.nodup_range.filter _).imp fun {x y} h e=>h ?_)
  exact congrArg Prod.snd e
 ·refine List.nodup_range.imp fun {x y} h q hq r hr e=>h ?_
  refine lE hq ?_;rintro b _ rfl
  refine lE hr ?_;rintro c _ rfl
  exact congrArg Prod.fst e
theorem f7{xs:List Int}{a:Nat}:¬rP xs a a:=fun h=>h.1 rfl
theorem or_eq{A B C:Nat}(h:A|||B=B)(g:B|||C=C):A|||C=C/\(A=C->A=B/\B=C):=by
 refine⟨by rw[<-g,<-Nat.or_assoc,h],fun e=> ?_⟩
 subst e
 have:A=B:=by rw[<-g,Nat.or_comm,h]
 exact⟨this,this.symm⟩
theorem rP_tr{xs:List Int}{a b c:Nat}(h:rP xs a b)(g:rP xs b c):rP xs a c:=by
 refine yD h fun h1 h2 h3=> ?_;clear h
 refine yD g fun g1 g2 g3=> ?_;clear g
 obtain⟨e1,e2⟩:=or_eq h2 g2
 refine⟨fun e=> ?_,e1,?_⟩
 ·subst e
  obtain⟨e3,e4⟩:=e2 rfl
  rcases h3 with h3|h3
  ·rcases g3 with g3|g3
   ·lia
   ·exact g3 e4
  ·exact h3 e3
 ·by_cases e:(z7 xs a).toNat=(z7 xs c).toNat
  ·obtain⟨e3,e4⟩:=e2 e
   left
   rcases h3 with h3|h3
   ·rcases g3 with g3|g3
    ·exact(oC zA zA)
    ·exact absurd e4 g3
   ·exact absurd e3 h3
  ·exact .inr e
theorem gX:∀a,a<5->∀b,b<5->zC a=zC b->a=b:=by decide+kernel
theorem oQ:∀a,a<5->zC a∈qA:=by decide+kernel
theorem nm_of{x:Str}(h:x∈qA):∃a,a<5/\zC a=x:=by
 revert x
 refine(?_:∀x∈qA,_)
 have:∀x∈qA,∃a∈List.range 5,zC a=x:=by decide+kernel
 intro x hx
 refine jH (this x hx) fun a h1 h2=> ?_
 exact⟨a,yQ.mp h1,h2⟩
def RX(xs:List Int)(x y:Str):Prop:=(x,y)∈jU xs
theorem wh{xs:List Int}{a b:Nat}(ha:a<5)(hb:b<5):RX xs (zC a) (zC b)↔rP xs a b:=by
 unfold RX jU
 rw[List.mem_map]
 constructor
 ·intro y0
  refine jH y0 fun q hq e=> ?_;clear y0
  refine yD (qH.mp hq) fun h1 h2 h3=> ?_
  have e1:=gX _ h1 _ ha (congrArg Prod.fst e)
  have e2:=gX _ h2 _ hb (congrArg Prod.snd e)
  rw[e1,e2] at h3
  exact h3
 ·intro h
  exact⟨(a,b),qH.mpr ⟨ha,hb,h⟩,rfl⟩
theorem oU{xs:List Int}{x y:Str}(h:RX xs x y):∃a b,a<5/\b<5/\x=zC a/\y=zC b/\rP xs a b:=by
 refine lE (show (x,y)∈(ja xs).map _ from h) fun q hq e=> ?_
 refine yD (qH.mp hq) fun h1 h2 h3=> ?_
 exact⟨q.1,q.2,h1,h2,(congrArg Prod.fst e).symm,(congrArg Prod.snd e).symm,h3⟩
theorem uz{xs:List Int}{x y:Str}(h:RX xs x y):x∈qA/\y∈qA:=by
 obtain⟨a,b,h1,h2,rfl,rfl,_⟩:=oU h
 exact⟨oQ a h1,oQ b h2⟩
theorem wg(xs:List Int):Ord (RX xs) where
 irr:=fun x h=>by
  obtain⟨a,b,h1,h2,e1,e2,h3⟩:=oU h
  rw[e1] at e2
  have:=gX _ h1 _ h2 e2
  subst this
  exact f7 h3
 tr:=fun x y z h g=>by
  obtain⟨a,b,h1,h2,rfl,rfl,h3⟩:=oU h
  obtain⟨c,d,g1,g2,e,rfl,g3⟩:=oU g
  have:=gX _ h2 _ g1 e
  subst this
  exact(wh h1 g2).mpr (rP_tr h3 g3)
theorem jIj(xs:List Int):(jr (jU xs)).length<=10000:=by
 have h:∀(rest:List Str),(∀x∈rest,x∈qA)->∀made:List qF,(rest.foldl (fun made name=>yN made name (jU xs)) made).length<=6 ^ rest.length * made.length:=by
  intro rest
  induction rest with
  |nil=>intro _ made;simp
  |cons x rest ih=>
   intro hm made
   rw[List.foldl_cons]
   refine xJ (ih (fun y hy=>hm y (qO _ hy)) _) ?_
   have:=jAv (states:=made) (jA6 xs x (hm x jk))
   rw[List.length_cons,Nat.pow_succ,Nat.mul_assoc]
   exact Nat.mul_le_mul_left _ this
 have:=h qA (fun x hx=>hx) [[]]
 have e:6 ^ qA.length * ([[]]:List qF).length=7776:=by decide
 rw[e] at this
 exact xJ this kD
end
section
variable(xs:List Int)
theorem vy:fT (jU xs) qA (jr (jU xs)):=ways_ok fun q hq=>(uz (xs:=xs) (x:=q.1) (y:=q.2) hq).1
theorem oY:jr (jU xs)≠[]:=by
 refine jH ((vy xs).all [] ⟨by simp,by simp,fun q hq=>by cases hq⟩) fun w hw _=> ?_
 exact List.ne_nil_of_mem hw
theorem jBs:Match (jU xs) qA (qC (jr (jU xs))):=(vy xs).ok _ (jC0 _ (oY xs)).1
theorem jCl{w:qF}(h:Match (jU xs) qA w):Way (RX xs) qA w where
 f:=h.f
 s:=h.s
 r:=fun q hq=>(h.r q hq).1
 n:=fun q hq=>uz (xs:=xs) (h.r q hq).1
theorem jJ0{M:qF}(h:Match (jU xs) qA M):M.length<=(qC (jr (jU xs))).length:=by
 refine jH ((vy xs).all M h) fun w hw hk=> ?_
 have:=(uU.mp hk).length_eq
 rw[List.length_map,List.length_map] at this
 have h2:=(jC0 _ (oY xs)).2 w hw
 lia
theorem zg:qA.Nodup:=by decide
theorem jC1:(ji qA (qC (jr (jU xs)))).length+(qC (jr (jU xs))).length=5/\(uh (ji qA (qC (jr (jU xs))))).Perm qA/\(∀l∈ji qA (qC (jr (jU xs))),l.Pairwise (RX xs)/\l≠[]):=jDq (wg xs) (jCl xs (jBs xs)) zg kD
theorem jHs{w:qF}(h:Match (jU xs) qA w):w.length<=5:=by
 have:=(jDq (wg xs) (jCl xs h) zg kD).1
 have e:qA.length=5:=rfl
 lia
end
theorem uO{xs:List Int}{c:List Str}(h:c.Pairwise (RX xs)):c.Nodup:=h.imp fun {a b} (h:RX xs a b) (e:a=b)=>(wg xs).irr a (by rw[<-e] at h;exact h)
theorem arH{o h l T:Nat}(i1:2 * h<=T)(j1:o<=l):2 * (o+h)<=T+2 * l/\(2 * (o+h)=T+2 * l↔o=l/\2 * h=T):=by omega
noncomputable def yh(P:List (Nat×Nat))(I:List Nat):Nat:=(P.filter fun q=>decide (q.1∈I)&&decide (q.2∈I)).length
theorem jBf(P:List (Nat×Nat))(cs:List Nat):∀(q:Nat×Nat),
  (q.1<=(cs.foldl (j3 P) q).1/\(∀c∈cs,yh P (jJ c)=0->(jJ c).length<=(cs.foldl (j3 P) q).1)/\((cs.foldl (j3 P) q).1=q.1\/∃c∈cs,yh P (jJ c)=0/\(cs.foldl (j3 P) q).1=(jJ c).length))/\
  (q.2<=(cs.foldl (j3 P) q).2/\(∀c∈cs,2 * yh P (jJ c)=(jJ c).length * ((jJ c).length - 1)->(jJ c).length<=(cs.foldl (j3 P) q).2)/\((cs.foldl (j3 P) q).2=q.2\/∃c∈cs,2 * yh P (jJ c)=(jJ c).length * ((jJ c).length - 1)/\(cs.foldl (j3 P) q).2=(jJ c).length)):=by
 induction cs with
 |nil=>
  intro q
  exact⟨⟨Nat.le_refl _,by simp,.inl rfl⟩,⟨Nat.le_refl _,by simp,.inl rfl⟩⟩
 |cons c cs ih=>
  intro q
  rw[List.foldl_cons]
  obtain⟨⟨a1,a2,a3⟩,⟨b1,b2,b3⟩⟩:=ih (j3 P q c)
  have e1:(j3 P q c).1=if yh P (jJ c)=0 then max q.1 (jJ c).length else q.1:=rfl
  have e2:(j3 P q c).2=if 2 * yh P (jJ c)=(jJ c).length * ((jJ c).length - 1) then max q.2 (jJ c).length else q.2:=rfl
  rw[e1] at a1 a3
  rw[e2] at b1 b3
  constructor
  ·refine⟨?_,fun d hd h=> ?_,?_⟩
   ·refine xJ ?_ a1
    split
    ·exact Nat.le_max_left _ _
    ·exact Nat.le_refl _
   ·rcases j0.mp hd with rfl|hd
    ·rw[if_pos h] at a1;exact xJ (Nat.le_max_right _ _) a1
    ·exact a2 d hd h
   ·rcases a3 with a3|⟨d,hd,h,h2⟩
    ·split at a3
     ·rename_i h
      by_cases e:q.1<=(jJ c).length
      ·exact .inr ⟨c,jk,h,a3.trans (Nat.max_eq_right e)⟩
      ·exact .inl (a3.trans (Nat.max_eq_left (Nat.le_of_lt (Nat.lt_of_not_le e))))
     ·exact .inl a3
    ·exact .inr ⟨d,qO _ hd,h,h2⟩
  ·refine⟨?_,fun d hd h=> ?_,?_⟩
   ·refine xJ ?_ b1
    split
    ·exact Nat.le_max_left _ _
    ·exact Nat.le_refl _
   ·rcases j0.mp hd with rfl|hd
    ·rw[if_pos h] at b1;exact xJ (Nat.le_max_right _ _) b1
    ·exact b2 d hd h
   ·rcases b3 with b3|⟨d,hd,h,h2⟩
    ·split at b3
     ·rename_i h
      by_cases e:q.2<=(jJ c).length
      ·exact .inr ⟨c,jk,h,b3.trans (Nat.max_eq_right e)⟩
      ·exact .inl (b3.trans (Nat.max_eq_left (Nat.le_of_lt (Nat.lt_of_not_le e))))
     ·exact .inl b3
    ·exact .inr ⟨d,qO _ hd,h,h2⟩
theorem cX{α:Type}{f g h:α->Bool}{P:List α}:(∀q∈P,(f q).toNat=(g q).toNat+(h q).toNat)->(P.filter f).length=(P.filter g).length+(P.filter h).length:=by
 induction P with
 |nil=>
  intro _
  exact rfl
 |cons q P ih=>
  intro hh
  have ih:=ih fun q hq=>hh q (qO _ hq)
  have hq:=hh q jk
  rw[List.filter_cons,List.filter_cons,List.filter_cons]
  cases hf:f q <;> cases hg:g q <;> cases hk:h q <;> rw[hf,hg,hk] at hq <;> simp only[Bool.toNat_true,Bool.toNat_false] at hq <;> simp only[if_true,Bool.false_eq_true,if_false,List.length_cons] <;> (first|assumption|lia)
theorem cone{P:List (Nat×Nat)}(hn:P.Nodup)(a:Nat×Nat):(P.filter fun q=>decide (q=a)).length=if a∈P then 1 else 0:=by
 induction P with
 |nil=>simp
 |cons q P ih=>
  obtain⟨h1,h2⟩:=y7.mp hn
  have ih:=ih h2
  rw[List.filter_cons]
  by_cases e:q=a
  ·subst e
   rw[if_neg h1] at ih
   simp[ih]
  ·rw[decide_eq_false e]
   have e':¬a=q:=fun h=>e h.symm
   simp only[Bool.false_eq_true,if_false,List.mem_cons,e',false_or]
   exact ih
noncomputable def oH(P:List (Nat×Nat))(x:Nat)(I:List Nat):Nat:=(P.filter fun q=>(decide (q.1=x)&&decide (q.2∈I))||(decide (q.2=x)&&decide (q.1∈I))).length
section
variable{P:List (Nat×Nat)}(hn:P.Nodup)(hi:∀a,(a,a)∉P)(ha:∀a b,(a,b)∈P->(b,a)∉P)
include hi in
theorem jH0{x:Nat}{I:List Nat}(hx:x∉I):yh P (x::I)=oH P x I+yh P I:=by
 unfold yh oH
 refine cX fun q hq=> ?_
 obtain⟨a,b⟩:=q
 by_cases h1:a=x
 ·subst h1
  by_cases h2:b=a
  ·subst h2;exact absurd hq (hi b)
  ·by_cases h3:b∈I <;> simp[h2,h3,hx]
 ·by_cases h2:b=x
  ·subst h2
   by_cases h3:a∈I <;> simp[h1,h3,hx]
  ·by_cases h3:b∈I <;> by_cases h4:a∈I <;> simp[h1,h2,h3,h4]
include hn ha in
theorem one_all{x:Nat}{I:List Nat}:I.Nodup->x∉I->oH P x I<=I.length/\(oH P x I=I.length↔∀b∈I,(x,b)∈P\/(b,x)∈P):=by
 induction I with
 |nil=>
  intro _ _
  have:oH P x []=0:=by
   unfold oH
   rw[List.length_eq_zero_iff,List.filter_eq_nil_iff]
   simp
  rw[this];simp
 |cons b I ih=>
  intro hI hx
  obtain⟨h1,h2⟩:=y7.mp hI
  have sC:x≠b:=fun e=>hx (by rw[e];exact jk)
  have hxI:x∉I:=fun h=>hx (qO _ h)
  obtain⟨i1,i2⟩:=ih h2 hxI
  have e:oH P x (b::I)=(P.filter fun q=>decide (q=(x,b))||decide (q=(b,x))).length+oH P x I:=by
   unfold oH
   refine cX fun q hq=> ?_
   obtain⟨c,d⟩:=q
   simp only[Prod.mk.injEq,List.mem_cons]
   by_cases g1:c=x
   ·subst g1
    by_cases g2:d=b
    ·subst g2;simp[h1,sC];intro h;exact absurd h.symm sC
    ·by_cases g3:d=c
     ·subst g3;simp[sC,hxI]
     ·by_cases g4:d∈I <;> simp[g2,g3,g4,sC]
   ·by_cases g2:d=x
    ·subst g2
     by_cases g3:c=b
     ·subst g3;simp[h1];intro h;exact absurd h.symm sC
     ·by_cases g4:c∈I <;> simp[g1,g3,g4]
    ·simp[g1,g2]
  have e2:(P.filter fun q=>decide (q=(x,b))||decide (q=(b,x))).length=(if (x,b)∈P then 1 else 0)+(if (b,x)∈P then 1 else 0):=by
   rw[<-cone hn,<-cone hn]
   refine cX fun q hq=> ?_
   by_cases g1:q=(x,b)
   ·subst g1
    simp[Prod.mk.injEq,sC]
   ·simp[g1]
  rw[e,e2,List.length_cons]
  by_cases g1:(x,b)∈P
  ·have g2:=ha _ _ g1
   rw[if_pos g1,if_neg g2]
   refine⟨by lia,?_⟩
   constructor
   ·intro h c hc
    rcases j0.mp hc with rfl|hc
    ·exact .inl g1
    ·exact i2.mp (by lia) c hc
   ·intro h
    have:=i2.mpr fun c hc=>h c (qO _ hc)
    lia
  ·rw[if_neg g1]
   by_cases g2:(b,x)∈P
   ·rw[if_pos g2]
    refine⟨by lia,?_⟩
    constructor
    ·intro h c hc
     rcases j0.mp hc with rfl|hc
     ·exact .inr g2
     ·exact i2.mp (by lia) c hc
    ·intro h
     have:=i2.mpr fun c hc=>h c (qO _ hc)
     lia
   ·rw[if_neg g2]
    refine⟨by lia,?_⟩
    constructor
    ·intro h;lia
    ·intro h
     rcases h b jk with h|h
     ·exact absurd h g1
     ·exact absurd h g2
theorem triB(k:Nat):(k+1) * (k+1 - 1)=k * (k - 1)+2 * k:=by
 induction k using cN with
 |zero=>rfl
 |succ k=>
  refine(?_:(k+2) * (k+1)=(k+1) * k+2 * (k+1))
  rw[Nat.add_mul (k) 2 (k+1),Nat.mul_comm k (k+1)]
include hn hi ha in
theorem jJi{I:List Nat}:I.Nodup->2 * yh P I<=I.length * (I.length - 1)/\(2 * yh P I=I.length * (I.length - 1)↔I.Pairwise fun a b=>(a,b)∈P\/(b,a)∈P):=by
 induction I with
 |nil=>
  intro _
  have:yh P []=0:=by
   unfold yh
   rw[List.length_eq_zero_iff,List.filter_eq_nil_iff]
   simp
  rw[this];simp
 |cons x I ih=>
  intro hI
  obtain⟨h1,h2⟩:=y7.mp hI
  obtain⟨i1,i2⟩:=ih h2
  obtain⟨j1,j2⟩:=one_all hn ha h2 h1
  rw[jH0 hi h1,List.length_cons,triB,List.pairwise_cons,<-i2,<-j2]
  exact arH i1 j1
end
theorem jCq{P:List (Nat×Nat)}{I:List Nat}:yh P I=0↔∀q∈P,¬(q.1∈I/\q.2∈I):=by
 unfold yh
 rw[List.length_eq_zero_iff,List.filter_eq_nil_iff]
 simp
theorem sel5:∀b0 b1 b2 b3 b4:Bool,∃c∈List.range 32,jJ c=(if b0 then [0] else [])++((if b1 then [1] else [])++((if b2 then [2] else [])++((if b3 then [3] else [])++(if b4 then [4] else [])))):=by decide+kernel
theorem sel(p:Nat->Bool):∃c∈List.range 32,jJ c=(List.range 5).filter p:=by
 refine jH (sel5 (p 0) (p 1) (p 2) (p 3) (p 4)) fun c hc e=> ?_
 refine⟨c,hc,e.trans ?_⟩
 have e5:List.range 5=[0,1,2,3,4]:=rfl
 rw[e5]
 simp only[List.filter_cons,List.filter_nil]
 cases p 0 <;> cases p 1 <;> cases p 2 <;> cases p 3 <;> cases p 4 <;> rfl
theorem yb(c:Nat):(jJ c).Nodup:=List.nodup_range.filter _
theorem qo{c k:Nat}(h:k∈jJ c):k<5:=yQ.mp (qG.mp h).1
noncomputable def dW(b0 b1 b2 b3 b4 b5 b6 b7 b8 b9:Bool)(i j:Nat):Bool:=
 match i * 5+j with
 |1=>b0|2=>b1|3=>b2|4=>b3|7=>b4|8=>b5|9=>b6|13=>b7|14=>b8|19=>b9|_=>false
theorem sd{P:Nat->Prop}(h0:P 0)(h1:P 1)(h2:P 2)(h3:P 3)(h4:P 4):∀{j:Nat},j<5->P j
 |0,_=>h0
 |1,_=>h1
 |2,_=>h2
 |3,_=>h3
 |4,_=>h4
 |_+5,h=>absurd h (Nat.not_lt.mpr (Nat.le_add_left _ _))
theorem pn{i j:Nat}{Q:Prop}(h:i<j)(k:Nat.ble j i=true):Q:=absurd h (Nat.not_lt.mpr (Nat.le_of_ble_eq_true k))
theorem jIt(g:Nat->Nat->Bool){i j:Nat}(h1:i<j)(h2:j<5):dW (g 0 1) (g 0 2) (g 0 3) (g 0 4) (g 1 2) (g 1 3) (g 1 4) (g 2 3) (g 2 4) (g 3 4) i j=g i j:=by
 generalize hf:dW (g 0 1) (g 0 2) (g 0 3) (g 0 4) (g 1 2) (g 1 3) (g 1 4) (g 2 3) (g 2 4) (g 3 4)=f
 exact sd (P:=fun j=>i<j->f i j=g i j) (fun h=>absurd h (Nat.not_lt_zero i)) (fun h=>sd (P:=fun i=>i<1->f i 1=g i 1) (fun _=>hf▸rfl) (fun h=>pn h rfl) (fun h=>pn h rfl) (fun h=>pn h rfl) (fun h=>pn h rfl) (Nat.lt_trans h kD) h)
  (fun h=>sd (P:=fun i=>i<2->f i 2=g i 2) (fun _=>hf▸rfl) (fun _=>hf▸rfl) (fun h=>pn h rfl) (fun h=>pn h rfl) (fun h=>pn h rfl) (Nat.lt_trans h kD) h)
  (fun h=>sd (P:=fun i=>i<3->f i 3=g i 3) (fun _=>hf▸rfl) (fun _=>hf▸rfl) (fun _=>hf▸rfl) (fun h=>pn h rfl) (fun h=>pn h rfl) (Nat.lt_trans h kD) h)
  (fun h=>sd (P:=fun i=>i<4->f i 4=g i 4) (fun _=>hf▸rfl) (fun _=>hf▸rfl) (fun _=>hf▸rfl) (fun _=>hf▸rfl) (fun h=>pn h rfl) (Nat.lt_trans h kD) h) h2 h1
noncomputable def allM:List (List (Nat×Nat)):=(List.range 5).foldl (fun ms i=>ms.flatMap fun m=>m::(((List.range 5).filter fun j=>Nat.blt i j&& !(m.any fun q=>Nat.beq q.2 j)).map fun j=>m++[(i,j)])) [[]]
noncomputable def allS:List (List Nat):=(List.range 5).foldl (fun ms i=>ms.flatMap fun m=>[m,m++[i]]) [[]]
noncomputable def rN(g:Nat->Nat->Bool):List Nat->Bool
 |[]=>true
 |i::S=>(S.all fun j=> !g i j)&&rN g S
noncomputable def dilB(g:Nat->Nat->Bool):Bool:=allM.any fun M=>(M.all fun q=>g q.1 q.2)&&allS.any fun S=>Nat.beq (M.length+S.length) 5&&rN g S
noncomputable def eO(g:Nat->Nat->Bool):Bool:=[(0,1,2),(0,1,3),(0,1,4),(0,2,3),(0,2,4),(0,3,4),(1,2,3),(1,2,4),(1,3,4),(2,3,4)].all fun(q:Nat×Nat×Nat)=> !(g q.1 q.2.1&&g q.2.1 q.2.2)||g q.1 q.2.2
theorem dil10:∀b0 b1 b2 b3 b4 b5 b6 b7 b8 b9:Bool,(!eO (dW b0 b1 b2 b3 b4 b5 b6 b7 b8 b9)||dilB (dW b0 b1 b2 b3 b4 b5 b6 b7 b8 b9))=true:=by decide+kernel
theorem allM_ok:∀M∈allM,(M.map (·.1)).Nodup/\(M.map (·.2)).Nodup/\∀q∈M,q.1<q.2/\q.2<5:=by decide+kernel
theorem allS_ok:∀S∈allS,S.Pairwise (fun a b=>a<b)/\∀i∈S,i<5:=by decide+kernel
theorem jGt{g:Nat->Nat->Bool}:∀{S:List Nat},rN g S=true->S.Pairwise fun i j=>g i j=false
 |[],_=>List.Pairwise.nil
 |i::S,h=>by
  unfold rN at h
  rw[Bool.and_eq_true,List.all_eq_true] at h
  exact List.pairwise_cons.mpr ⟨fun j hj=>by simpa using h.1 j hj,jGt h.2⟩
section
variable{R:Str->Str->Prop}{out:List Str}
open Classical in
theorem jJt(O:Ord R)(hl:out.length=5)(hn:out.Nodup)(hp:out.Pairwise fun a b=>¬R b a):
  ∃(M:qF) (S:List Str),(M.map (·.1)).Nodup/\(M.map (·.2)).Nodup/\(∀q∈M,R q.1 q.2)/\S.Nodup/\(∀x∈S,x∈out)/\(∀x∈S,∀y∈S,¬R x y)/\M.length+S.length=5:=by
 have ho:∀i,i<5->out[i]? =some (out.getD i ""):=fun i hi=>by
  rw[List.getD_eq_getElem?_getD,List.getElem?_eq_getElem (by lia)];rfl
 have jv:∀i j,i<j->j<5->out.getD i ""≠out.getD j ""/\¬R (out.getD j "") (out.getD i ""):=fun i j h1 h2=>by
  have a:=List.pairwise_iff_getElem.mp hn i j (by lia) (by lia) h1
  have b:=List.pairwise_iff_getElem.mp hp i j (by lia) (by lia) h1
  simp only[List.getD_eq_getElem?_getD,List.getElem?_eq_getElem (show i<out.length by lia),List.getElem?_eq_getElem (show j<out.length by lia),Option.getD_some]
  exact⟨a,b⟩
 have qu:∀i,i<5->out.getD i ""∈out:=fun i hi=>List.mem_of_getElem? (ho i hi)
 have bx:∀i j,i<5->j<5->out.getD i ""=out.getD j ""->i=j:=fun i j h1 h2 e=>by
  rcases Nat.lt_trichotomy i j with h|h|h
  ·exact absurd e (jv i j h h2).1
  ·exact h
  ·exact absurd e.symm (jv j i h h1).1
 let g:Nat->Nat->Bool:=fun i j=>decide (R (out.getD i "") (out.getD j ""))
 have hg:∀i j,g i j=true↔R (out.getD i "") (out.getD j ""):=fun i j=>decide_eq_true_iff
 have hd:=dil10 (g 0 1) (g 0 2) (g 0 3) (g 0 4) (g 1 2) (g 1 3) (g 1 4) (g 2 3) (g 2 4) (g 3 4)
 generalize hr:dW (g 0 1) (g 0 2) (g 0 3) (g 0 4) (g 1 2) (g 1 3) (g 1 4) (g 2 3) (g 2 4) (g 3 4)=r at hd
 have aJ:∀i j,i<j->j<5->r i j=g i j:=fun i j h1 h2=>by rw[<-hr];exact jIt g h1 h2
 have ht:eO r=true:=by
  unfold eO
  rw[List.all_eq_true]
  intro q hq
  have sF:q.1<q.2.1/\q.2.1<q.2.2/\q.2.2<5:=by
   have:∀q∈[(0,1,2),(0,1,3),(0,1,4),(0,2,3),(0,2,4),(0,3,4),(1,2,3),(1,2,4),(1,3,4),(2,3,4)],q.1<q.2.1/\q.2.1<q.2.2/\q.2.2<5:=by decide
   exact this q hq
  refine yD sF fun h1 h2 h3=> ?_;clear sF
  rw[aJ _ _ h1 (oC zA zA),aJ _ _ h2 h3,aJ _ _ (oC zA zA) h3,Bool.or_eq_true,Bool.not_eq_true']
  by_cases e:(g q.1 q.2.1&&g q.2.1 q.2.2)=true
  ·right
   rw[Bool.and_eq_true,hg,hg] at e
   exact(hg _ _).mpr (O.tr _ _ _ e.1 e.2)
  ·left;simpa using e
 rw[ht] at hd
 have hd:dilB r=true:=by exact hd
 unfold dilB at hd
 rw[List.any_eq_true] at hd
 refine jH hd ?_;clear hd;intro M hM hd
 rw[Bool.and_eq_true,List.all_eq_true,List.any_eq_true] at hd
 obtain⟨hMr,S,hS,hd⟩:=hd
 rw[Bool.and_eq_true] at hd
 obtain⟨hlen,dh⟩:=hd
 have hlen:M.length+S.length=5:=Nat.eq_of_beq_eq_true hlen
 refine yD (allM_ok M hM) fun m1 m2 m3=> ?_
 obtain⟨s1,s2⟩:=allS_ok S hS
 have hf:=jGt dh
 refine⟨M.map fun q=>(out.getD q.1 "",out.getD q.2 ""),S.map fun i=>out.getD i "",?_,?_,fun q hq=> ?_,?_,fun x hx=> ?_,fun x hx y hy=> ?_,by rw[List.length_map,List.length_map];exact hlen⟩
 ·rw[List.map_map]
  refine List.pairwise_map.mpr ((List.pairwise_map.mp m1).imp_of_mem fun {a b} ha hb h e=>h ?_)
  have h1:=m3 a ha;have h2:=m3 b hb
  exact bx _ _ (by lia) (by lia) e
 ·rw[List.map_map]
  refine List.pairwise_map.mpr ((List.pairwise_map.mp m2).imp_of_mem fun {a b} ha hb h e=>h ?_)
  have h1:=m3 a ha;have h2:=m3 b hb
  exact bx _ _ (by lia) (by lia) e
 ·refine lE hq ?_;rintro p hp' rfl
  have h:=m3 p hp'
  have:=hMr p hp'
  rw[aJ _ _ h.1 h.2] at this
  exact(hg _ _).mp this
 ·refine List.pairwise_map.mpr (s1.imp_of_mem fun {a b} ha hb h e=> ?_)
  have:=bx _ _ (s2 a ha) (s2 b hb) e
  lia
 ·refine lE hx ?_;rintro i hi rfl
  exact qu i (s2 i hi)
 ·refine lE hx ?_;rintro i hi rfl
  refine lE hy ?_;rintro j hj rfl
  rcases Nat.lt_trichotomy i j with h|h|h
  ·have sI:r i j=false:=by
    have hboth:=List.Pairwise.and s1 hf
    obtain⟨a,ha,e⟩:=List.getElem_of_mem hi
    obtain⟨b,hb,e2⟩:=List.getElem_of_mem hj
    rcases Nat.lt_trichotomy a b with h'|h'|h'
    ·have:=List.pairwise_iff_getElem.mp hf a b ha hb h'
     rw[e,e2] at this
     exact this
    ·subst h'
     rw[e] at e2;lia
    ·have:=List.pairwise_iff_getElem.mp s1 b a hb ha h'
     rw[e,e2] at this
     lia
   rw[aJ _ _ h (s2 j hj)] at sI
   intro hR
   rw[(hg _ _).mpr hR] at sI
   cases sI
  ·subst h;exact O.irr _
  ·exact(jv j i h (s2 i hi)).2
theorem cover{p:Str->Bool}:∀{ls:List (List Str)},(∀l∈ls,(l.filter p).length<=1)->(ls.flatten.filter p).length<=ls.length
 |[],_=>by simp
 |l::ls,h=>by
  have h1:=h l jk
  have h2:=cover (ls:=ls) fun l hl=>h l (qO _ hl)
  rw[List.flatten_cons,List.filter_append,List.length_append,List.length_cons]
  lia
theorem jF6{l S:List Str}(hl:l.Pairwise R)(hS:∀x∈S,∀y∈S,¬R x y):(l.filter fun x=>decide (x∈S)).length<=1:=by
 have h:=hl.filter (fun x=>decide (x∈S))
 have hm:∀z∈l.filter (fun x=>decide (x∈S)),z∈S:=fun z hz=>by simpa using (qG.mp hz).2
 match h':l.filter (fun x=>decide (x∈S)),h,hm with
 |[],_,_=>simp
 |[a],_,_=>simp
 |a::b::r,h,hm=>exact absurd (List.rel_of_pairwise_cons h jk) (hS a (hm a jk) b (hm b (qO _ jk)))
theorem jIb{c:List Str}(h:c.Pairwise R){x y:Str}(hx:x∈c)(hy:y∈c)(jv:x≠y):R x y\/R y x:=by
 obtain⟨a,ha,e⟩:=List.getElem_of_mem hx
 obtain⟨b,hb,e2⟩:=List.getElem_of_mem hy
 rcases Nat.lt_trichotomy a b with h'|h'|h'
 ·have:=List.pairwise_iff_getElem.mp h a b ha hb h'
  rw[e,e2] at this
  exact .inl this
 ·subst h'
  rw[e] at e2;exact absurd e2 jv
 ·have:=List.pairwise_iff_getElem.mp h b a hb ha h'
  rw[e,e2] at this
  exact .inr this
theorem gq{I:List Nat}(h:I.Nodup)(h5:∀k∈I,k<5):(I.map zC).Nodup:=
 List.pairwise_map.mpr (h.imp_of_mem fun {a b} ha hb jv e=>jv (gX _ (h5 a ha) _ (h5 b hb) e))
theorem jGk{S:List Str}(hn:S.Nodup)(hm:∀x∈S,x∈qA):((List.range 5).filter fun k=>decide (zC k∈S)).length=S.length:=by
 have h:(((List.range 5).filter fun k=>decide (zC k∈S)).map zC).Perm S:=by
  refine yt (gq (List.nodup_range.filter _) fun k hk=>yQ.mp (qG.mp hk).1) hn fun z=> ?_
  rw[List.mem_map]
  constructor
  ·intro y0
   refine jH y0 ?_;clear y0;rintro k hk rfl
   simpa using (qG.mp hk).2
  ·intro hz
   refine jH (nm_of (hm z hz)) ?_;rintro a ha rfl
   exact⟨a,qG.mpr ⟨yQ.mpr ha,by simpa using hz⟩,rfl⟩
 have:=h.length_eq
 rw[List.length_map] at this
 exact this
end
section
variable{xs:List Int}{out:List Str}(fy:out.Perm qA)(hp:out.Pairwise fun a b=>¬RX xs b a)
include fy hp
theorem wide_eq:(ji qA (qC (jr (jU xs)))).length=(yl (ja xs)).1:=by
 obtain⟨⟨_,g1,g2⟩,_⟩:=jBf (ja xs) (List.range 32) (0,0)
 have e:(List.range 32).foldl (j3 (ja xs)) (0,0)=yl (ja xs):=rfl
 rw[e] at g1 g2
 refine yD (jC1 xs) fun b1 b2 b3=> ?_
 refine Nat.le_antisymm ?_ ?_
 ·obtain⟨M,S,m1,m2,m3,s1,s2,s3,hlen⟩:=jJt (wg xs) (by rw[fy.length_eq];rfl) (fy.nodup_iff.mpr zg) hp
  have hS:∀x∈S,x∈qA:=fun x hx=>fy.mem_iff.mp (s2 x hx)
  have h1:=jJ0 xs (M:=M) ⟨m1,m2,fun q hq=>⟨m3 q hq,(uz (m3 q hq)).1⟩⟩
  refine jH (sel fun k=>decide (zC k∈S)) fun c hc e=> ?_
  have h2:=g1 c hc (jCq.mpr fun q hq ⟨i1,i2⟩=>by
   refine yD (qH.mp hq) fun q1 q2 q3=> ?_
   rw[e] at i1 i2
   refine s3 _ (by simpa using (qG.mp i1).2) _ (by simpa using (qG.mp i2).2) ((wh q1 q2).mpr q3))
  rw[e,jGk s1 hS] at h2
  lia
 ·rcases g2 with g2|⟨c,hc,h,g2⟩
  ·rw[g2];exact Nat.zero_le _
  ·rw[g2]
   have hz:=jCq.mp h
   have hS:∀x∈(jJ c).map zC,∀y∈(jJ c).map zC,¬RX xs x y:=fun x hx y hy hR=>by
    refine lE hx ?_;rintro a ha rfl
    refine lE hy ?_;rintro b hb rfl
    have h1:=qo ha;have h2:=qo hb
    exact hz (a,b) (qH.mpr ⟨h1,h2,(wh h1 h2).mp hR⟩) ⟨ha,hb⟩
   have h1:=cover (ls:=ji qA (qC (jr (jU xs)))) (p:=fun x=>decide (x∈(jJ c).map zC)) fun l hl=>jF6 (b3 l hl).1 hS
   rw[<-zk] at h1
   have h2:=ze (gq (yb c) fun k hk=>qo hk) (b:=(uh (ji qA (qC (jr (jU xs))))).filter fun x=>decide (x∈(jJ c).map zC)) fun z hz=>by
    refine qG.mpr ⟨?_,decide_eq_true hz⟩
    refine lE hz ?_;rintro a ha rfl
    exact b2.mem_iff.mpr (oQ a (qo ha))
   rw[List.length_map] at h2
   exact(bX zA zA)
theorem long_eq{n:Nat}(hlo:∃c:List Str,c.length=n/\c.Pairwise (RX xs)/\∀z∈c,z∈out)(hhi:∀c:List Str,c.Pairwise (RX xs)->(∀z∈c,z∈out)->c.length<=n):n=(yl (ja xs)).2:=by
 obtain⟨_,⟨_,g1,g2⟩⟩:=jBf (ja xs) (List.range 32) (0,0)
 have e:(List.range 32).foldl (j3 (ja xs)) (0,0)=yl (ja xs):=rfl
 rw[e] at g1 g2
 have bw:∀a,(a,a)∉ja xs:=fun a h=>f7 (qH.mp h).2.2
 have hasy:∀a b,(a,b)∈ja xs->(b,a)∉ja xs:=fun a b h g=>f7 (rP_tr (qH.mp h).2.2 (qH.mp g).2.2)
 have h2:=fun c=>(jJi (jC7 xs) bw hasy (yb c)).2
 refine Nat.le_antisymm ?_ ?_
 ·refine xQ hlo fun c c1 c2 c3=> ?_;clear hlo
  have hS:∀x∈c,x∈qA:=fun x hx=>fy.mem_iff.mp (c3 x hx)
  refine jH (sel fun k=>decide (zC k∈c)) fun i hi e=> ?_
  have:=g1 i hi ((h2 i).mpr ((yb i).imp_of_mem fun {a b} ha hb jv=>by
   have nh:=qo ha;have mX:=qo hb
   rw[e] at ha hb
   have fG:zC a∈c:=by simpa using (qG.mp ha).2
   have fE:zC b∈c:=by simpa using (qG.mp hb).2
   rcases jIb c2 fG fE (fun h=>jv (gX _ nh _ mX h)) with h|h
   ·exact .inl (qH.mpr ⟨nh,mX,(wh nh mX).mp h⟩)
   ·exact .inr (qH.mpr ⟨mX,nh,(wh mX nh).mp h⟩)))
  rw[e,jGk (uO c2) hS] at this
  lia
 ·rcases g2 with g2|⟨c,hc,h,g2⟩
  ·rw[g2];exact Nat.zero_le _
  ·rw[g2]
   have hpw:=(h2 c).mp h
   have hcmp:∀a∈jJ c,∀b∈jJ c,a≠b->RX xs (zC a) (zC b)\/RX xs (zC b) (zC a):=by
    intro a ha b hb jv
    have nh:=qo ha;have mX:=qo hb
    have key:(a,b)∈ja xs\/(b,a)∈ja xs:=by
     obtain⟨i,hi,e⟩:=List.getElem_of_mem ha
     obtain⟨j,hj,e2⟩:=List.getElem_of_mem hb
     rcases Nat.lt_trichotomy i j with h'|h'|h'
     ·have:=List.pairwise_iff_getElem.mp hpw i j hi hj h'
      rw[e,e2] at this
      exact this
     ·subst h'
      rw[e] at e2;exact absurd e2 jv
     ·have:=List.pairwise_iff_getElem.mp hpw j i hj hi h'
      rw[e,e2] at this
      exact this.symm
    rcases key with k|k
    ·exact .inl ((wh nh mX).mpr (qH.mp k).2.2)
    ·exact .inr ((wh mX nh).mpr (qH.mp k).2.2)
   have hon:out.Nodup:=fy.nodup_iff.mpr zg
   have h1:=hhi (out.filter fun x=>decide (x∈(jJ c).map zC)) (((List.Pairwise.and hp hon).filter _).imp_of_mem fun {x y} hx hy hxy=>by
    have hx':x∈(jJ c).map zC:=by simpa using (qG.mp hx).2
    have hy':y∈(jJ c).map zC:=by simpa using (qG.mp hy).2
    refine lE hx' ?_;rintro a ha rfl
    refine lE hy' ?_;rintro b hb rfl
    rcases hcmp a ha b hb (fun e=>hxy.2 (by rw[e])) with k|k
    ·exact k
    ·exact absurd k hxy.1) fun z hz=>(qG.mp hz).1
   have h3:=ze (gq (yb c) fun k hk=>qo hk) (b:=out.filter fun x=>decide (x∈(jJ c).map zC)) fun z hz=>by
    refine qG.mpr ⟨?_,decide_eq_true hz⟩
    refine lE hz ?_;rintro a ha rfl
    exact fy.mem_iff.mpr (oQ a (qo ha))
   rw[List.length_map] at h3
   exact(bX zA zA)
end
theorem bZ{x y:Str}:∀{out:List Str},[x,y].Sublist out->∃i j:Nat,i<j/\out[i]? =some x/\out[j]? =some y
 |[],h=>by cases h
 |z::out,h=>by
  cases h with
  |cons _ h=>
   refine zB (bZ h) fun i j h1 h2 h3=> ?_
   exact⟨i+1,j+1,by (first|exact Nat.le_succ _|lia),by exact h2,by exact h3⟩
  |cons_cons _ h=>
   obtain⟨j,hj⟩:=List.mem_iff_getElem?.mp (List.singleton_sublist.mp h)
   exact⟨0,j+1,by (first|exact Nat.zero_le _|exact Nat.succ_pos _),by first|with_reducible rfl|simp,by exact hj⟩
theorem oq{out:List Str}(hn:out.Nodup){i j:Nat}{x:Str}(h:out[i]? =some x)(g:out[j]? =some x):i=j:=by
 obtain⟨hi,e⟩:=List.getElem?_eq_some_iff.mp h
 obtain⟨hj,e2⟩:=List.getElem?_eq_some_iff.mp g
 rcases Nat.lt_trichotomy i j with k|k|k
 ·exact absurd (e.trans e2.symm) (List.pairwise_iff_getElem.mp hn i j hi hj k)
 ·exact k
 ·exact absurd (e2.trans e.symm) (List.pairwise_iff_getElem.mp hn j i hj hi k)
theorem jD7{out:List Str}(hn:out.Nodup){i:Nat}{x:Str}(h:out[i]? =some x):out.findIdx? (fun y=>y==x)=some i:=by
 obtain⟨hi,e⟩:=List.getElem?_eq_some_iff.mp h
 refine List.findIdx?_eq_some_iff_getElem.mpr ⟨hi,by simpa using e,fun j hj hh=> ?_⟩
 have e2:out[j]=x:=by simpa using hh
 have:=oq hn h (List.getElem?_eq_some_iff.mpr ⟨(oC zA zA),e2⟩)
 lia
theorem jCb{R:Str->Str->Prop}(O:Ord R){x y:Str}(hr:R x y):∀{l:List Str},l.Pairwise R->x∈l->y∈l->[x,y].Sublist l
 |[],_,h,_=>by cases h
 |z::l,hp,hx,hy=>by
  obtain⟨p1,p2⟩:=List.pairwise_cons.mp hp
  have jv:x≠y:=fun e=>O.irr x (by rw[<-e] at hr;exact hr)
  rcases j0.mp hx with e|hx'
  ·rcases j0.mp hy with e2|hy'
   ·exact absurd (e.trans e2.symm) jv
   ·rw[e];exact List.Sublist.cons_cons _ (List.singleton_sublist.mpr hy')
  ·rcases j0.mp hy with e|hy'
   ·rw[e] at hr
    exact absurd (O.tr _ _ _ hr (p1 x hx')) (O.irr x)
   ·exact List.Sublist.cons _ (jCb O hr p2 hx' hy')
theorem jG6(a b:List (List Str)):total (a++b)=total a+total b:=by
 unfold total
 rw[List.map_append,List.sum_append]
theorem jFf(a:List (List Str)):total a=a.flatten.length:=by
 unfold total
 rw[List.length_flatten]
theorem jCa{α:Type}(f:α->List Str)(hf:∀q,(f q).length=2):∀l:List α,total (l.map f)=2 * l.length
 |[]=>rfl
 |q::l=>by
  have ih:=jCa f hf l
  unfold total at *
  rw[List.map_cons,List.map_cons,List.sum_cons,ih,hf,List.length_cons]
  simp+arith only
theorem plain1(xs:List Int):fv xs:=by
 refine yD (jC1 xs) fun b1 b2 b3=> ?_
 have hb:=jBs xs
 have h5:qA.length=5:=rfl
 have xq:=b2.length_eq
 have mT:∀l∈ji qA (qC (jr (jU xs))),∀z∈l,z∈qA:=fun l hl z hz=>b2.mem_iff.mp (by rw[zk];exact List.mem_flatten.mpr ⟨l,hl,hz⟩)
 have dG:∀s∈qL (jU xs) (ji qA (qC (jr (jU xs)))),∃q∈jU xs,s=[q.1,q.2]:=fun s hs=>by
  refine lE hs ?_;rintro q hq rfl
  exact⟨q,(qG.mp hq).1,rfl⟩
 have htot:total (ji qA (qC (jr (jU xs)))++qL (jU xs) (ji qA (qC (jr (jU xs)))))<900:=by
  rw[jG6,jFf,<-zk,xq,h5]
  unfold qL
  rw[jCa _ (fun q=>rfl)]
  have h1:=List.length_filter_le (fun q:Str×Str=>decide (((ji qA (qC (jr (jU xs)))).filter fun line=>decide (q.1∈line)&&decide (q.2∈line))=[])) (jU xs)
  have h2:=yr xs
  have h3:(jU xs).length=(ja xs).length:=List.length_map _
  lia
 obtain⟨out,o1,o2,o3,o4⟩:=jFq (wg xs) 900 _ htot fun s hs=>by
  rcases jq.mp hs with hs|hs
  ·exact(b3 s hs).1
  ·refine jH (dG s hs) ?_;rintro q hq rfl
   exact List.pairwise_cons.mpr ⟨fun z hz=>by rw[j4.mp hz];exact hq,List.pairwise_singleton _ _⟩
 have fy:out.Perm qA:=yt o2 zg fun z=>by
  rw[o3]
  constructor
  ·intro y0
   refine jH y0 fun s hs hz=> ?_;clear y0
   rcases jq.mp hs with hs|hs
   ·exact mT s hs z hz
   ·refine jH (dG s hs) ?_;rintro q hq rfl
    have:=uz (xs:=xs) (x:=q.1) (y:=q.2) hq
    rcases j0.mp hz with e|hz
    ·rw[e];exact this.1
    ·rw[j4.mp hz];exact this.2
  ·intro hz
   have:=b2.mem_iff.mpr hz
   rw[zk] at this
   refine jH (List.mem_flatten.mp this) fun l hl hz=> ?_
   exact⟨l,xn _ hl,hz⟩
 have qQ:∀q∈jU xs,[q.1,q.2].Sublist out:=fun q hq=>by
  by_cases e:((ji qA (qC (jr (jU xs)))).filter fun line=>decide (q.1∈line)&&decide (q.2∈line))=[]
  ·exact o4 _ (jz _ (vK.mpr ⟨q,qG.mpr ⟨hq,decide_eq_true e⟩,rfl⟩))
  ·obtain⟨l,hl⟩:=List.exists_mem_of_ne_nil _ e
   obtain⟨hl,hd⟩:=qG.mp hl
   rw[Bool.and_eq_true,decide_eq_true_eq,decide_eq_true_eq] at hd
   exact(jCb (wg xs) (x:=q.1) (y:=q.2) hq (b3 l hl).1 hd.1 hd.2).trans (o4 l (xn _ hl))
 have hp:out.Pairwise fun a b=>¬RX xs b a:=by
  refine List.pairwise_iff_getElem.mpr fun i j hi hj sI hr=> ?_
  refine zB (bZ (qQ (out[j],out[i]) hr)) fun i' j' k1 k2 k3=> ?_
  have e1:=oq o2 k2 (List.getElem?_eq_getElem hj)
  have e2:=oq o2 k3 (List.getElem?_eq_getElem hi)
  lia
 refine yD (mirsky (R:=RX xs) (rows:=jU xs) (fun x y=>Iff.rfl) (wg xs) o2 (fun x y h=>⟨fy.mem_iff.mpr (uz h).1,fy.mem_iff.mpr (uz h).2⟩) hp (zv out (jU xs)) rfl) fun y1 y2 y3=> ?_
 have nU:out.length=5:=fy.length_eq
 exact {
  ne:=oY xs
  len:=jIj xs
  w5:=fun w hw=>jHs xs ((vy xs).ok w hw)
  nd:=hb.f
  lne:=fun e=>by rw[e] at b2;exact absurd b2.length_eq kD
  llen:=by lia
  lin:=fun l hl=>by
   have:=ze (uO (b3 l hl).1) (mT l hl)
   exact j8
  cl:=by lia
  cs:=gp.mpr b2
  wide:=wide_eq fy hp
  mg:=by
   refine⟨900,out,Nat.le_refl _,o1,by lia,(fun e=>by rw[e] at nU;cases nU),gp.mpr fy,fun q hq=> ?_,?_,long_eq fy hp y1 y2,y3⟩
   ·refine zB (bZ (qQ q hq)) fun i j k1 k2 k3=> ?_
    exact⟨i,j,jD7 o2 k2,jD7 o2 k3,by (first|exact Nat.zero_le _|exact(lC zA))⟩
   ·refine xQ y1 fun c c1 c2 c3=> ?_;clear y1
    have:=ze (uO c2) c3
    lia }
theorem lqLaw:("law":Str)++(".<locals>.":Str)++("<lambda>":Str)=("law.<locals>.<lambda>":Str):=by decide+kernel
theorem law1_ok:uc fL=true:=by decide+kernel
theorem law1_names:fL.names=(["script"]:List Str):=kR
noncomputable def adK(K:Frag)(x:Str):Addr:=match nsIn K mainGlobals x with
 |some (some (.ref a))=>a
 |_=>0
noncomputable def cdK(K:Frag)(x:Str):Addr:=match (az (wo K (adK K x))).code with
 | .ref c=>c
 |_=>0
theorem fnCons{K:Frag}{q:Str×Fn}{l:List (Str×Fn)}(h:FnAt K q.1 q.2 (adK K q.1) (cdK K q.1))(t:∀p∈l,∃a c,FnAt K p.1 p.2 a c):∀p∈q::l,∃a c,FnAt K p.1 p.2 a c:=
 List.forall_mem_cons.mpr ⟨⟨_,_,h⟩,t⟩
noncomputable def vq:Program:=PySem.W.view PySem.Challenge.pw_oy0159_01 [43]
noncomputable def lse:List Str:=(PySem.Challenge.pw_oy0159_01.main.body.take 43).flatMap bindsAtTop
@[reducible] def pZ:OpenRow:=OpenLaw.row PySem.Challenge.rw_oy0159_01
theorem hh{d:DefRec}{et:List (Str×Expr)}(H:Hook)(k1:pZ.wellSaid=true)(h1:defOf vq pZ.name=some (d,et))(h2:pZ.prog.theDef pZ.name=some (d.params,d.body,d.scope))(h3:kwWritten? d.params.kwonlyargs d.params.kw_defaults=some et)
  (hl:LeftO pZ.prog vq lse (fun s=>xlAt vq [] s&&recOk (RowW.records (OpenRow.toRowW pZ)) s) H.obs H.val 3112) (hw:pZ.toRowW.promised) (hc:WalkO vq lse (XL vq []) H.says pZ.toRowW d et fun f vs=>PySem.call f vs):pZ.Holds:=
 holds_open (Xt:=fun s=>xlAt vq [] s&&recOk (RowW.records (OpenRow.toRowW pZ)) s) (XP:=XL vq []) (Yf:=H.obs) (Ya:=H.val) (YP:=H.says) (N:=3112) hl H.of H.keeps (fun s e=>xl_of s (Bool.and_eq_true_iff.mp e).1) XL.keeps h1 h2 h3 (fun s e=>recFacts_of (Bool.and_eq_true_iff.mp e).2) (by rfl) k1 (by decide+kernel) ⟨rfl,rfl,rfl,rfl,rfl,by decide+kernel⟩ hw hc
end Mine
open PySem PySem.W PyProof.Rows
set_option Elab.async false
local macro_rules
  | `(tactic| o_head $H) => `(tactic| refine Mine.hh $H ‹_› rfl rfl rfl ?_ ?_ ?_)
set_option maxRecDepth 100000 in
set_option maxHeartbeats 8000000 in
set_option tactic.hygienic true in
theorem PySem.Challenge.cw_oy0159_01_holds : PySem.Challenge.rw_oy0159_01.Holds := by
  w_on; refine holds_law (by decide +kernel) fun said => ?_; km_head
  · intro w; kernel_rfl
  · w_witness2
  k_fill
  intro w s₀ s₁ mg mb G Y fa o pm cd doc dV kV ho hd hcd hD hmg hg args vals as hpre hlay hrd hwl hlo
  have KX := km_in_of Y
  km_tabs Y
  have X := (Ground.X G).1
  have V := (Ground.X G).2
  refine Ground.open G ?_
  intro T B D TE TW
  try (refine guard_noD D (by decide +kernel) ?_; clear D)
  km_lay T hmg ho hd cd
  have hdV : dV = .none := by
    rcases hD.pos with ⟨_, e⟩ | ⟨h, _⟩
    · exact e
    · exact absurd rfl h
  have hkV : kV = .none := by
    rcases hD.kw with ⟨_, e⟩ | ⟨h, _⟩
    · exact e
    · exact absurd rfl h
  subst hdV hkV
  clear hD Y V TE TW B
  wrow_args hpre hlay hrd hwl hlo
  rename_i ns hs hlay0 hL1 hr1 hl2 as1 as2 la vs as3 hL ra w1 r0 hI hrW hlen htr
  obtain ⟨vs, e1, e2⟩ := Mine.script_of (prog := Challenge.pw_oy0159_01) (w := w) w1
  refine enter_call ?_
  refine kn_post hT9 (fun _ _ => rfl) ?_
  have kf : ∀ q ∈ Mine.jK, ∃ a c, Mine.FnAt (cw_oy0159_01_holds.heap_1 w.params) q.1 q.2 a c := by
    unfold Mine.jK
    iterate 14 refine Mine.fnCons ⟨by kernel_rfl, by kernel_rfl, by kernel_rfl, by kernel_rfl, by kernel_rfl⟩ ?_
    exact fun _ h => nomatch h
  have x51 : Mine.ExcAt (cw_oy0159_01_holds.heap_1 w.params) "error_reply" 51 38 50 37 := ⟨by kernel_rfl, ⟨_, _, _, _, _, _, _, _, _, _, _, _, _, _, rfl⟩, by kernel_rfl, by kernel_rfl, by simp only [Mine.vA, List.forall_mem_cons]; exact ⟨by kernel_rfl, by kernel_rfl, by kernel_rfl, by kernel_rfl, by kernel_rfl, fun _ h => nomatch h⟩, ⟨_, _, _, _, rfl, rfl⟩, by kernel_rfl, by kernel_rfl, by simp only [Mine.vA, List.forall_mem_cons]; exact ⟨by kernel_rfl, by kernel_rfl, by kernel_rfl, by kernel_rfl, by kernel_rfl, fun _ h => nomatch h⟩⟩
  have x63 : Mine.ExcAt (cw_oy0159_01_holds.heap_1 w.params) "error_proto" 63 38 62 37 := ⟨by kernel_rfl, ⟨_, _, _, _, _, _, _, _, _, _, _, _, _, _, rfl⟩, by kernel_rfl, by kernel_rfl, by simp only [Mine.vA, List.forall_mem_cons]; exact ⟨by kernel_rfl, by kernel_rfl, by kernel_rfl, by kernel_rfl, by kernel_rfl, fun _ h => nomatch h⟩, ⟨_, _, _, _, rfl, rfl⟩, by kernel_rfl, by kernel_rfl, by simp only [Mine.vA, List.forall_mem_cons]; exact ⟨by kernel_rfl, by kernel_rfl, by kernel_rfl, by kernel_rfl, by kernel_rfl, fun _ h => nomatch h⟩⟩
  have EK : Mine.ExcKAt (cw_oy0159_01_holds.heap_1 w.params) 51 63 := by
    refine ⟨by kernel_rfl, by kernel_rfl, by decide, ?_, ?_, ?_⟩
    · intro c hc c' hc'
      simp only [List.mem_cons, List.not_mem_nil, or_false] at hc hc'
      rcases hc with rfl | rfl <;> rcases hc' with rfl | rfl <;> kernel_rfl
    · intro c hc
      simp only [List.mem_cons, List.not_mem_nil, or_false] at hc
      rcases hc with rfl | rfl <;> kernel_rfl
    · intro c hc
      simp only [List.mem_cons, List.not_mem_nil, or_false] at hc
      rcases hc with rfl | rfl <;> kernel_rfl
  have kb : ∀ x ∈ Mine.ya, nsIn (cw_oy0159_01_holds.heap_1 w.params) mainGlobals x = some none := by
    simp only [Mine.ya, List.forall_mem_cons]
    exact ⟨by kernel_rfl, by kernel_rfl, by kernel_rfl, by kernel_rfl, by kernel_rfl, by kernel_rfl, by kernel_rfl, by kernel_rfl, by kernel_rfl, by kernel_rfl, by kernel_rfl, by kernel_rfl, by kernel_rfl, fun _ h => nomatch h⟩
  have AK : Mine.AllK (cw_oy0159_01_holds.heap_1 w.params) Mine.jK Mine.tabD 183 181 := {
    noT := by kernel_rfl
    fn := kf
    okf := Mine.okf1
    tab := ⟨.ref 126, by kernel_rfl, by kernel_rfl⟩
    bi := kb
    red := ⟨Mine.red1, 23, 22, 16, 15, Mine.redf1, by kernel_rfl, by kernel_rfl, by kernel_rfl, by kernel_rfl, by kernel_rfl, by kernel_rfl, by kernel_rfl, by kernel_rfl, by kernel_rfl, by kernel_rfl⟩
    hd := by kernel_rfl
    exc := ⟨51, 63, 38, 50, 62, 37, x51, x63, by decide, by decide, by decide⟩ }
  have BS := Mine.base_of (prog := Challenge.pw_oy0159_01) (w := w) (lq := "law.<locals>.<lambda>") hT9 KX T (by kernel_rfl) AK
  have XK := EK.is (C := Mine.cxOf Challenge.pw_oy0159_01 w (ghostOf s₁.heap [(183, 181)]) 181 mg mb Mine.jK Mine.tabD 183 "law.<locals>.<lambda>") (ghost_K hT9 KX AK.noT) BS.g
  have hns : ns.length ≤ 1000 := by
    have h63 : ¬ ((63 : Int) < (ns.length : Int)) := hlen
    lia
  exact Mine.law_enter (fn := Mine.fL) (n := 60) BS rfl (hT9 _ (List.mem_singleton.mpr rfl)).2 hg Mine.law1_ok Mine.law1_names ho hd hcd Mine.lqLaw e1 e2 (by kernel_rfl) (fun _ => rfl) (by decide) (Mine.law1_body BS rfl rfl XK hns (Mine.plain1 _))
