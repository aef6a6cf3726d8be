import PyProof.Rows.All
import PyProof.Draws
import PyProof.ExcBaseAll.ValueError
import PyProof.Rows.TupMore
import PyProof.Rows.FactsDivmod
import PyProof.Rows.SeqMore
import PyProof.Rows.SortWalk
import KE.KBoundM
import KE.KSortTup
import KE.KStar
import Wide.FinOn
import OpenK.AllK
import Wide.All
import Lean
import PySem.Challenge.RW_ny0325_03
set_option Elab.async false
set_option linter.unusedVariables false
set_option maxRecDepth 100000
set_option maxHeartbeats 8000000
set_option genInjectivity false
set_option genSizeOf false
set_option tactic.hygienic false
open PySem PySem.W PySem.Calls PyProof.Rows
noncomputable section
namespace Mine
set_option backward.match.sparseCases true
section
noncomputable abbrev D:=PyData
noncomputable def cap:Nat:=100000
noncomputable abbrev Avoid:=Addr->Prop
theorem add_ne {n a b:Nat}(h:a≠b):n+a≠n+b:=λe=>h (Nat.add_left_cancel e)
theorem AL {n a:Nat}(h:a≠0):n+a≠n:=λe=>h (Nat.add_left_cancel (e.trans (Nat.add_zero n).symm))
theorem ne_add0 {n a:Nat}(h:a≠0):n≠n+a:=λe=>AL h e.symm
noncomputable def objD (a:Addr):D:=.dict [(.int (Int.ofNat a),.none)]
mutual
inductive Rd (O M:Avoid) (h:Heap):Nat->Value->D->Prop where
 | none {k}:Rd O M h k .none .none
 | bool {k b}:Rd O M h k (.bool b) (.bool b)
 | int {k i t}:Rd O M h k (.int i t) (.int i)
 | str {k x t}:Rd O M h k (.str x t) (.str x)
 | obj {k a}:Rd O M h k (.ref a) (objD a)
 | list {k a vs n ds}:¬O a->(k=0->¬M a)->vs.size<=cap->h.get? a=some { cls:=.type "list",data:=.seq vs n }->Rds O M h (k - 1) vs.toList ds->Rd O M h k (.ref a) (.list ds)
 | tup {k a vs n ds}:¬O a->(k=0->¬M a)->vs.size<=cap->h.get? a=some { cls:=.type "tuple",data:=.seq vs n }->Rds O M h (k - 1) vs.toList ds->Rd O M h k (.ref a) (.tuple ds)
inductive Rds (O M:Avoid) (h:Heap):Nat->List Value->List D->Prop where
 | nil {k}:Rds O M h k [] []
 | cons {k v vs d ds}:Rd O M h k v d->Rds O M h k vs ds->Rds O M h k (v::vs) (d::ds)
end
theorem Rd.gen {O M O' M':Avoid}{h h':Heap}(S:Nat->Nat->Prop)(hS:∀{k k':Nat},S k k'->S (k - 1) (k' - 1))
  (N:∀{k k':Nat} {a:Addr} {c:Value} {vs:Array Value} {n:Nat},S k k'->¬O a->(k=0->¬M a)->h.get? a=some { cls:=c,data:=.seq vs n }->¬O' a/\(k'=0->¬M' a)/\h'.get? a=some { cls:=c,data:=.seq vs n }) {k k':Nat} {v:Value} {d:D} (e:S k k') (r:Rd O M h k v d):Rd O' M' h' k' v d :=
 Rd.rec (motive_1:=λk v d zw=>∀k',S k k'->Rd O' M' h' k' v d) (motive_2:=λk vs ds zw=>∀k',S k k'->Rds O' M' h' k' vs ds)
  (λzw zw=>.none) (λzw zw=>.bool) (λzw zw=>.int) (λzw zw=>.str) (λzw zw=>.obj)
  (λh1 h2 h3 h4 zw i zw e=>.list (N e h1 h2 h4).1 (N e h1 h2 h4).2.1 h3 (N e h1 h2 h4).2.2 (i _ (hS e)))
  (λh1 h2 h3 h4 zw i zw e=>.tup (N e h1 h2 h4).1 (N e h1 h2 h4).2.1 h3 (N e h1 h2 h4).2.2 (i _ (hS e)))
  (λzw zw=>.nil) (λzw zw i j zw e=>.cons (i _ e) (j _ e)) r _ e
theorem Rds.gen {O M O' M':Avoid}{h h':Heap}(S:Nat->Nat->Prop)(hS:∀{k k':Nat},S k k'->S (k - 1) (k' - 1))
  (N:∀{k k':Nat} {a:Addr} {c:Value} {vs:Array Value} {n:Nat},S k k'->¬O a->(k=0->¬M a)->h.get? a=some { cls:=c,data:=.seq vs n }->¬O' a/\(k'=0->¬M' a)/\h'.get? a=some { cls:=c,data:=.seq vs n }) {k k':Nat} {v:List Value} {d:List D} (e:S k k') (r:Rds O M h k v d):Rds O' M' h' k' v d :=
 Rds.rec (motive_1:=λk v d zw=>True) (motive_2:=λk vs ds zw=>∀k',S k k'->Rds O' M' h' k' vs ds)
  trivial trivial trivial trivial trivial (λzw zw zw zw zw zw=>trivial) (λzw zw zw zw zw zw=>trivial)
  (λzw zw=>.nil) (λa zw zw j zw e=>.cons (a.gen S hS N e) (j _ e)) r _ e
theorem iB {k k':Nat}(e:k=0/\k'=0):k - 1=0/\k' - 1=0:=by rw [e.1,e.2]; exact⟨rfl,rfl⟩
theorem Rd.seqs {O M:Avoid}{h h':Heap}(hk:∀b c vs n,h.get? b=some { cls:=c,data:=.seq vs n }->h'.get? b=some { cls:=c,data:=.seq vs n }){k:Nat}{v:Value}{d:D}(x:Rd O M h k v d):Rd O M h' k v d :=
 x.gen Eq (λe=>e ▸ rfl) (λe a b c=>⟨a,λz=>b (e.trans z),hk _ _ _ _ c⟩) rfl
theorem Rds.seqs {O M:Avoid}{h h':Heap}(hk:∀b c vs n,h.get? b=some { cls:=c,data:=.seq vs n }->h'.get? b=some { cls:=c,data:=.seq vs n }){k:Nat}{v:List Value}{d:List D}(x:Rds O M h k v d):Rds O M h' k v d :=
 x.gen Eq (λe=>e ▸ rfl) (λe a b c=>⟨a,λz=>b (e.trans z),hk _ _ _ _ c⟩) rfl
theorem Rd.keeps {O M:Avoid}{h h':Heap}{k:Nat}{v:Value}{d:D}(x:Rd O M h k v d)(hk:∀b o,h.get? b=some o->h'.get? b=some o):Rd O M h' k v d:=x.seqs λzw zw zw zw e=>hk _ _ e
theorem Rds.keeps {O M:Avoid}{h h':Heap}{k:Nat}{v:List Value}{d:List D}(x:Rds O M h k v d)(hk:∀b o,h.get? b=some o->h'.get? b=some o):Rds O M h' k v d:=x.seqs λzw zw zw zw e=>hk _ _ e
theorem Rd.but {O M:Avoid}{h h':Heap}(hk:∀b c vs n,¬M b->h.get? b=some { cls:=c,data:=.seq vs n }->h'.get? b=some { cls:=c,data:=.seq vs n }){k:Nat}{v:Value}{d:D}(e:k=0)(x:Rd O M h k v d):Rd O M h' k v d :=
 x.gen (λk k'=>k=0/\k'=0) iB (λe a b c=>⟨a,λzw=>b e.1,hk _ _ _ _ (b e.1) c⟩) ⟨e,e⟩
theorem Rds.but {O M:Avoid}{h h':Heap}(hk:∀b c vs n,¬M b->h.get? b=some { cls:=c,data:=.seq vs n }->h'.get? b=some { cls:=c,data:=.seq vs n }){k:Nat}{v:List Value}{d:List D}(e:k=0)(x:Rds O M h k v d):Rds O M h' k v d :=
 x.gen (λk k'=>k=0/\k'=0) iB (λe a b c=>⟨a,λzw=>b e.1,hk _ _ _ _ (b e.1) c⟩) ⟨e,e⟩
theorem Rd.imp {O M O' M':Avoid}{h:Heap}(ho:∀b,(h.get? b).isSome=true->¬O b->¬O' b)(hm:∀b,(h.get? b).isSome=true->¬O b->¬M b->¬M' b){k k':Nat}{v:Value}{d:D}(e:k<=k')(x:Rd O M h k v d):Rd O' M' h k' v d :=
 x.gen Nat.le (λe=>Nat.sub_le_sub_right e 1) (λe a b c=>⟨ho _ (c ▸ rfl) a,λz=>hm _ (c ▸ rfl) a (b (Nat.le_zero.mp (z ▸ e))),c⟩) e
theorem Rds.imp {O M O' M':Avoid}{h:Heap}(ho:∀b,(h.get? b).isSome=true->¬O b->¬O' b)(hm:∀b,(h.get? b).isSome=true->¬O b->¬M b->¬M' b){k k':Nat}{v:List Value}{d:List D}(e:k<=k')(x:Rds O M h k v d):Rds O' M' h k' v d :=
 x.gen Nat.le (λe=>Nat.sub_le_sub_right e 1) (λe a b c=>⟨ho _ (c ▸ rfl) a,λz=>hm _ (c ▸ rfl) a (b (Nat.le_zero.mp (z ▸ e))),c⟩) e
theorem Rd.free {O M:Avoid}{h:Heap}(k':Nat){k:Nat}{v:Value}{d:D}(x:Rd O M h k v d):Rd O (λzw=>False) h k' v d :=
 x.gen (λzw zw=>True) (λzw=>trivial) (λzw a zw c=>⟨a,λzw=>id,c⟩) trivial
theorem Rd.le {O M:Avoid}{h:Heap}{k k':Nat}{v:Value}{d:D}(e:k<=k')(x:Rd O M h k v d):Rd O M h k' v d:=x.imp (λzw zw a=>a) (λzw zw zw a=>a) e
theorem Rds.le {O M:Avoid}{h:Heap}{k k':Nat}{v:List Value}{d:List D}(e:k<=k')(x:Rds O M h k v d):Rds O M h k' v d:=x.imp (λzw zw a=>a) (λzw zw zw a=>a) e
theorem Rds.ind {O M:Avoid}{h:Heap}{k:Nat}{P:List Value->List D->Prop}(n:P [] [])(c:∀{v vs d ds},Rd O M h k v d->Rds O M h k vs ds->P vs ds->P (v::vs) (d::ds)){vs:List Value}{ds:List D}(x:Rds O M h k vs ds):P vs ds :=
 Rds.rec (motive_1:=λzw zw zw zw=>True) (motive_2:=λk' vs ds zw=>k'=k->P vs ds) trivial trivial trivial trivial trivial (λzw zw zw zw zw zw=>trivial) (λzw zw zw zw zw zw=>trivial)
  (λzw=>n) (λa b zw i e=>c (e ▸ a) (e ▸ b) (i e)) x rfl
theorem Rds.length {O M:Avoid}{h:Heap}{k:Nat}{vs:List Value}{ds:List D}(x:Rds O M h k vs ds):vs.length=ds.length :=
 x.ind (P:=λvs ds=>vs.length=ds.length) rfl λzw zw i=>congrArg (·+1) i
theorem Rds.pair {O M:Avoid}{h:Heap}{k:Nat}{vs:List Value}{ds:List D}(x:Rds O M h k vs ds):∀i:Nat,(vs[i]?=none/\ds[i]?=none)\/∃v d,vs[i]?=some v/\ds[i]?=some d/\Rd O M h k v d :=
 x.ind (P:=λvs ds=>∀i:Nat,(vs[i]?=none/\ds[i]?=none)\/∃v d,vs[i]?=some v/\ds[i]?=some d/\Rd O M h k v d) (λzw=>.inl ⟨rfl,rfl⟩) λa zw i n=>Nat.rec (.inr ⟨_,_,rfl,rfl,a⟩) (λn zw=>i n) n
theorem Rds.get {O M:Avoid}{h:Heap}{k:Nat}{vs:List Value}{ds:List D}(x:Rds O M h k vs ds){i:Nat}{d:D}(e:ds[i]?=some d):∃v,vs[i]?=some v/\Rd O M h k v d :=
 (x.pair i).elim (λz=>absurd (z.2.symm.trans e) nofun) λ⟨v,_,a,b,c⟩=>⟨v,a,Option.some.inj (b.symm.trans e) ▸ c⟩
theorem Rds.getV {O M:Avoid}{h:Heap}{k:Nat}{vs:List Value}{ds:List D}(x:Rds O M h k vs ds){i:Nat}{v:Value}(e:vs[i]?=some v):∃d,ds[i]?=some d/\Rd O M h k v d :=
 (x.pair i).elim (λz=>absurd (z.1.symm.trans e) nofun) λ⟨_,d,a,b,c⟩=>⟨d,b,Option.some.inj (a.symm.trans e) ▸ c⟩
theorem Rds.append {O M:Avoid}{h:Heap}{k:Nat}{vs vs':List Value}{ds ds':List D}(x:Rds O M h k vs ds)(y:Rds O M h k vs' ds'):Rds O M h k (vs++vs') (ds++ds') :=
 x.ind (P:=λvs ds=>Rds O M h k (vs++vs') (ds++ds')) y λa zw i=>.cons a i
theorem Rds.set {O M:Avoid}{h:Heap}{k:Nat}{vs:List Value}{ds:List D}(x:Rds O M h k vs ds)(i:Nat){v:Value}{d:D}(r:Rd O M h k v d):Rds O M h k (vs.set i v) (ds.set i d) :=
 x.ind (P:=λvs ds=>∀i:Nat,Rds O M h k (vs.set i v) (ds.set i d)) (λzw=>.nil) (λa b i n=>Nat.rec (.cons r b) (λn zw=>.cons a (i n)) n) i
theorem no {α:Type}{a:α}{P:Prop}(h:none=some a):P:=nomatch h
theorem nb {P:Prop}(h:false=true):P:=nomatch h
theorem Rds.cons_inv {O M:Avoid}{h:Heap}{k:Nat}{vs:List Value}{d:D}{ds:List D}(r:Rds O M h k vs (d::ds)):∃v vs',vs=v::vs'/\Rd O M h k v d/\Rds O M h k vs' ds:=by
 cases r with | cons a b=>exact⟨_,_,rfl,a,b⟩
theorem Rds.nil_inv {O M:Avoid}{h:Heap}{k:Nat}{vs:List Value}(r:Rds O M h k vs []):vs=[]:=by
 cases r; rfl
theorem Rds.one_inv {O M:Avoid}{h:Heap}{k:Nat}{vs:List Value}{d:D}(r:Rds O M h k vs [d]):∃v,vs=[v]/\Rd O M h k v d :=
 r.cons_inv.elim λv z=>z.elim λzw z=>⟨v,z.2.2.nil_inv ▸ z.1,z.2.1⟩
theorem Rds.two_inv {O M:Avoid}{h:Heap}{k:Nat}{vs:List Value}{d e:D}(r:Rds O M h k vs [d,e]):∃v w,vs=[v,w]/\Rd O M h k v d/\Rd O M h k w e :=
 r.cons_inv.elim λv z=>z.elim λzw z=>z.2.2.one_inv.elim λw y=>⟨v,w,y.1 ▸ z.1,z.2.1,y.2⟩
theorem Rds.three_inv {O M:Avoid}{h:Heap}{k:Nat}{vs:List Value}{d e f:D}(r:Rds O M h k vs [d,e,f]):∃v w x,vs=[v,w,x]/\Rd O M h k v d/\Rd O M h k w e/\Rd O M h k x f :=
 r.cons_inv.elim λv z=>z.elim λzw z=>z.2.2.two_inv.elim λw y=>y.elim λx y=>⟨v,w,x,y.1 ▸ z.1,z.2.1,y.2.1,y.2.2⟩
theorem wp_qe {α:Type}{M:Model}{A:Around}{t:Sem α}{Q:α->Shared->Prop}{E:Value->Shared->Prop}{s:Shared}(h:∀(Q':α->Shared->Prop) (E':Value->Shared->Prop),(∀a s,Q a s->Q' a s)->(∀e s,E e s->E' e s)->wpAny M A t Q' E' s):wpAny M A t Q E s:=h Q E (λzw zw=>id) λzw zw=>id
theorem wp_q {α:Type}{M:Model}{A:Around}{t:Sem α}{Q:α->Shared->Prop}{E:Value->Shared->Prop}{s:Shared}(h:∀Q':α->Shared->Prop,(∀a s,Q a s->Q' a s)->wpAny M A t Q' E s):wpAny M A t Q E s:=h Q λzw zw=>id
theorem aD (s:Shared):Keeps s s:=⟨s.heap,s.toks,rfl,λzw zw e=>e⟩
theorem aB {s s' s'':Shared}(a:Keeps s s')(b:Keeps s' s''):Keeps s s'':=by
 obtain⟨h,t,rfl,k⟩:=a
 obtain⟨h',t',rfl,k'⟩:=b
 exact⟨h',t',rfl,λb o e=>k' _ _ (k _ _ e)⟩
theorem aA {s s':Shared}(a:Keeps s s'):∀b o,s.heap.get? b=some o->s'.heap.get? b=some o:=by
 obtain⟨h,t,rfl,k⟩:=a
 exact k
theorem aG (s:Shared)(t:Nat):Keeps s { s with toks:=t }:=⟨s.heap,t,rfl,λzw zw e=>e⟩
theorem aI (s:Shared)(o:Obj)(t:Nat):Keeps s { s with heap:=s.heap.push o,toks:=t }:=⟨_,t,rfl,λzw zw e=>Heap.get?_push_of_some _ e⟩
noncomputable def VarAt (env:Env) (h:Heap) (x:Str) (v:Value):Prop :=
 (env.kindOf x=some .local/\∃m,h.Ns env.locals m/\m x=some v) ∨
 ((env.kindOf x=some .cell\/(env.kindOf x=some .free/\(x==("__classdict__":Str))=false))/\∃c,env.cells.lookup x=some c/\h.IsCell c (some v))
theorem VarAt.keeps {env:Env}{h h':Heap}{x:Str}{v:Value}(y:VarAt env h x v)(hk:∀b o,h.get? b=some o->h'.get? b=some o):VarAt env h' x v:=by
 rcases y with ⟨a,m,b,c⟩ | ⟨a,c,b,d⟩
 ·exact .inl ⟨a,m,b.keeps hk,c⟩
 ·exact .inr ⟨a,c,b,d.keeps hk⟩
structure Rho where
 sc:List (Str×NameKind)
 vars:List (Str×(D×Nat))
noncomputable def Rho.set (V:Rho) (x:Str) (d:D) (k:Nat):Rho:={ V with vars:=(x,(d,k))::V.vars }
noncomputable def OwnV (M:Avoid) (v:Value):Prop:=∃a,v=.ref a/\∀b,M b↔b=a
structure EnvOk (O M:Avoid) (V:Rho) (env:Env) (h:Heap):Prop where
 kind:env.scope.kind=.function
 gl:env.globals=mainGlobals
 bl:env.builtins=builtinsNs
 sc:env.scope.names=V.sc
 apart:∀x y c,env.cells.lookup x=some c->env.cells.lookup y=some c->x=y
 vars:∀x d k,V.vars.lookup x=some (d,k)->∃v,VarAt env h x v/\Rd O M h k v d/\(k≠0->OwnV M v)
theorem EnvOk.keeps {O M:Avoid}{V:Rho}{env:Env}{h h':Heap}(x:EnvOk O M V env h)(hk:∀b o,h.get? b=some o->h'.get? b=some o):EnvOk O M V env h' :=
 ⟨x.kind,x.gl,x.bl,x.sc,x.apart,λy d k e=>let ⟨v,a,b,o⟩:=x.vars y d k e; ⟨v,a.keeps hk,b.keeps hk,o⟩⟩
structure Glob where
 prog:Program
 w:World
 K:Frag
 h:Heap
 mg:Str->Option Value
 mb:Str->Option Value
 X:K.In h
 g:h.Ns mainGlobals mg
 b:h.Ns builtinsNs mb
 lim:h.NoLimit
 bt:∀x:Str,x≠"__name__"->mb x=bootBuiltins x
noncomputable def Glob.Up (g:Glob) (s:Shared):Prop:=∀b o,g.h.get? b=some o->s.heap.get? b=some o
theorem Glob.Up.keeps {g:Glob}{s s':Shared}(x:g.Up s)(k:Keeps s s'):g.Up s':=λb o e=>aA k _ _ (x b o e)
noncomputable abbrev Glob.M (g:Glob):Model:=model g.prog g.w
structure Room (n:Nat) (A:Around):Prop where
 handled:A.handled=none
 depth:A.depth+2*n+2 < recursionLimit
 units:A.units+30*n+60 < cLine
noncomputable def Alloc (O:Avoid) (s:Shared):Prop:=∀b,O b->∃o,s.heap.get? b=some o
theorem Alloc.keeps {O:Avoid}{s s':Shared}(x:Alloc O s)(k:Keeps s s'):Alloc O s':=λb o=>(x b o).elim λy e=>⟨y,aA k _ _ e⟩
theorem Alloc.new {O:Avoid}{s:Shared}(x:Alloc O s):¬O s.heap.objs.size:=λo=>by
 obtain⟨y,e⟩:=x _ o
 exact absurd (Heap.lt_size e) (Nat.lt_irrefl _)
noncomputable def EvS (g:Glob) (n:Nat) (V:Rho) (e:Expr) (d:D) (k:Nat):Prop :=
 ∀(O M:Avoid) (env:Env) (A:Around) (s:Shared) (E:Value->Shared->Prop),g.Up s->Room n A->Alloc O s->Alloc M s->EnvOk O M V env s.heap →
  wpAny g.M A (eval e env) (λv s'=>Keeps s s'/\Rd O M s'.heap k v d) E s
theorem EvS.use {g:Glob}{n:Nat}{V:Rho}{e:Expr}{d:D}{k:Nat}(x:EvS g n V e d k){O M:Avoid}{env:Env}{A:Around}{s:Shared}{E:Value->Shared->Prop}{Q:Value->Shared->Prop}
  (u:g.Up s) (r:Room n A) (aO:Alloc O s) (aM:Alloc M s) (eo:EnvOk O M V env s.heap)
  (q:∀v s',Keeps s s'->Rd O M s'.heap k v d->g.Up s'->Alloc O s'->Alloc M s'->EnvOk O M V env s'.heap->Q v s'):wpAny g.M A (eval e env) Q E s :=
 wpAny_mono (x O M env A s E u r aO aM eo) (λv s' ⟨a,b⟩=>q v s' a b (u.keeps a) (aO.keeps a) (aM.keeps a) (eo.keeps (aA a))) λzw zw z=>z
section
variable {g:Glob} {n:Nat} {V:Rho}
theorem eK {i:Int}{k:Nat}{c:Nat}{pos:Pos}:EvS g n V (.Constant (.int i) c pos) (.int i) k :=
 λO M env A s E u r aO aM eo=>wpAny_Constant_int ⟨aG s _,.int⟩
theorem ev_str {x:Str}{k:Nat}{c:Nat}{pos:Pos}:EvS g n V (.Constant (.str x) c pos) (.str x) k :=
 λO M env A s E u r aO aM eo=>Calls.Constant_str ⟨aG s _,.str⟩
theorem fX {k:Nat}{c:Nat}{pos:Pos}:EvS g n V (.Constant .none c pos) .none k :=
 λO M env A s E u r aO aM eo=>wpAny_pure (a:=Value.none) ⟨aD s,.none⟩
theorem zL {b:Bool}{k:Nat}{c:Nat}{pos:Pos}:EvS g n V (.Constant (.bool b) c pos) (.bool b) k :=
 λO M env A s E u r aO aM eo=>wpAny_pure (a:=Value.bool b) ⟨aD s,.bool⟩
theorem bE {x:Str}{pos:Pos}{d:D}{k:Nat}(h:V.vars.lookup x=some (d,k))(hd:(x==("__debug__":Str))=false):EvS g n V (.Name x pos) d k:=by
 intro O M env A s E u r aO aM eo
 obtain⟨v,hv,hr,_⟩:=eo.vars x d k h
 refine wpAny_Name ?_ hd
 rcases hv with ⟨a,m,b,c⟩ | ⟨a | ⟨a,a'⟩,c,b,e⟩
 ·exact wpAny_loadName_local eo.kind a b c ⟨aD s,hr⟩
 ·exact wpAny_loadName_cell eo.kind a b e ⟨aD s,hr⟩
 ·exact wpAny_loadName_free eo.kind a b e ⟨aD s,hr⟩ a'
theorem bG {x:Str}{pos:Pos}{v:Value}{O M:Avoid}{env:Env}{A:Around}{s:Shared}{E:Value->Shared->Prop}{Q:Value->Shared->Prop}(u:g.Up s)(eo:EnvOk O M V env s.heap)
  (hs:V.sc.lookup x=some .globalImplicit) (hv:nsIn g.K mainGlobals x=some (some v)) (hd:(x==("__debug__":Str))=false) (q:Q v s):wpAny g.M A (eval (.Name x pos) env) Q E s:=by
 refine Calls.Name_function_global eo.kind (by unfold Env.kindOf; rw [eo.sc]; exact hs) ?_ hd
 refine Calls.loadGlobal_global (mg:=g.mg) ?_ (mg_of g.X g.g hv) q
 rw [eo.gl]
 exact g.g.keeps u
theorem aT {x:Str}{pos:Pos}{v:Value}{O M:Avoid}{env:Env}{A:Around}{s:Shared}{E:Value->Shared->Prop}{Q:Value->Shared->Prop}(u:g.Up s)(eo:EnvOk O M V env s.heap)
  (hs:V.sc.lookup x=some .globalImplicit) (hv:nsIn g.K mainGlobals x=some none) (hb:bootBuiltins x=some v) (hn:x≠"__name__") (hd:(x==("__debug__":Str))=false) (q:Q v s):wpAny g.M A (eval (.Name x pos) env) Q E s:=by
 refine Calls.Name_function_global eo.kind (by unfold Env.kindOf; rw [eo.sc]; exact hs) ?_ hd
 refine Calls.loadGlobal_builtin (mg:=g.mg) (mb:=g.mb) ?_ (mg_none_of g.X g.g hv) ?_ ((g.bt x hn).trans hb) q
 ·rw [eo.gl]; exact g.g.keeps u
 ·rw [eo.bl]; exact g.b.keeps u
theorem ev_binop {l r:Expr}{op:Operator}{pos:Pos}{a b d:D}{k ka kb:Nat}(x:EvS g n V l a ka)(y:EvS g n V r b kb)
  (q:∀(O M:Avoid) (A:Around) (s:Shared) (E:Value->Shared->Prop) (va vb:Value),Room n A->Alloc O s->Alloc M s->Rd O M s.heap ka va a->Rd O M s.heap kb vb b->wpAny g.M A (binaryOp op va vb) (λv s'=>Keeps s s'/\Rd O M s'.heap k v d) E s) :
  EvS g n V (.BinOp l op r pos) d k:=by
 intro O M env A s E u rm aO aM eo
 refine wpAny_BinOp (x.use u rm aO aM eo λva s_1 k1 r1 u1 o1 m1 e1=>y.use u1 rm o1 m1 e1 λvb s2 k2 r2 u2 o2 m2 e2=>?_)
 exact wpAny_mono (q O M A s2 E va vb rm o2 m2 (r1.keeps (aA k2)) r2) (λv s' ⟨p,q⟩=>⟨aB k1 (aB k2 p),q⟩) λzw zw z=>z
end
end
variable {g:Glob} {n k:Nat} {A:Around} {s s':Shared} {V V':Rho} {O M F:Avoid} {E Q:Value->Shared->Prop} {R:Result->Shared->Prop} {v:Value} {d:D} {P:Params} {h h':Heap} {x:Str} {pos p np cp:Pos} {e target elt iter:Expr} {ds:List D} {env:Env} {a:Addr}
set_option backward.match.sparseCases false
section
theorem aH {i:Int}(x:Rd O M h k v (.int i)):∃t,v=.int i t:=by cases x; exact⟨_,rfl⟩
theorem dR {i:Str}(x:Rd O M h k v (.str i)):∃t,v=.str i t:=by cases x; exact⟨_,rfl⟩
theorem kH (x:Rd O M h k v .none):v=.none:=by cases x; rfl
theorem bI:cap<=sizeLine:=by decide
theorem bC (x:Rd O M h k v (.list ds)):∃a vs n,v=.ref a/\vs.size<=cap/\IsL h a vs n/\Rds O M h (k - 1) vs.toList ds/\¬O a/\(k=0->¬M a):=by
 cases x with
 | list h1 h2 h3 h4 h5=>exact⟨_,_,_,rfl,h3,h4,h5,h1,h2⟩
theorem kG (x:Rd O M h k v (.tuple ds)):∃a vs n,v=.ref a/\vs.size<=cap/\IsT h a vs n/\Rds O M h (k - 1) vs.toList ds/\¬O a/\(k=0->¬M a):=by
 cases x with
 | tup h1 h2 h3 h4 h5=>exact⟨_,_,_,rfl,h3,h4,h5,h1,h2⟩
theorem dS {vs:Array Value}(aO:Alloc O s)(aM:Alloc M s)(hz:vs.size<=cap)(r:Rds O M s.heap (k - 1) vs.toList ds) :
  Rd O M (s.heap.push { cls:=.type "list",data:=.seq vs }) k (.ref s.heap.objs.size) (.list ds) :=
 .list aO.new (λzw=>aM.new) hz (Heap.get?_push_size _ rfl) (r.keeps λzw zw e=>Heap.get?_push_of_some _ e)
theorem eG {vs:Array Value}(aO:Alloc O s)(aM:Alloc M s)(hz:vs.size<=cap)(r:Rds O M s.heap (k - 1) vs.toList ds) :
  Rd O M (s.heap.push { cls:=.type "tuple",data:=.seq vs }) k (.ref s.heap.objs.size) (.tuple ds) :=
 .tup aO.new (λzw=>aM.new) hz (Heap.get?_push_size _ rfl) (r.keeps λzw zw e=>Heap.get?_push_of_some _ e)
noncomputable def BinS (g:Glob) (n:Nat) (op:Operator) (a:D) (ka:Nat) (b:D) (kb:Nat) (d:D) (k:Nat):Prop :=
 ∀(O M:Avoid) (A:Around) (s:Shared) (E:Value->Shared->Prop) (va vb:Value),Room n A->Alloc O s->Alloc M s->Rd O M s.heap ka va a->Rd O M s.heap kb vb b →
  wpAny g.M A (binaryOp op va vb) (λv s'=>Keeps s s'/\Rd O M s'.heap k v d) E s
theorem ev_bin {l r:Expr}{op:Operator}{a b:D}{ka kb:Nat}(x:EvS g n V l a ka)(y:EvS g n V r b kb)(q:BinS g n op a ka b kb d k):EvS g n V (.BinOp l op r pos) d k :=
 ev_binop x y q
section
variable {ka kb:Nat}
theorem bin_add {x y:Int}:BinS g n .Add (.int x) ka (.int y) kb (.int (x+y)) k:=λO M A s E va vb r aO aM ra rb=>by
 obtain⟨t,rfl⟩:=aH ra; obtain⟨u,rfl⟩:=aH rb
 exact P.add_int ⟨aG s _,.int⟩
theorem bin_sub {x y:Int}:BinS g n .Sub (.int x) ka (.int y) kb (.int (x - y)) k:=λO M A s E va vb r aO aM ra rb=>by
 obtain⟨t,rfl⟩:=aH ra; obtain⟨u,rfl⟩:=aH rb
 exact P.sub_int ⟨aG s _,.int⟩
theorem bin_mul {x y:Int}(h:IntMulOk x y):BinS g n .Mult (.int x) ka (.int y) kb (.int (x*y)) k:=λO M A s E va vb r aO aM ra rb=>by
 obtain⟨t,rfl⟩:=aH ra; obtain⟨u,rfl⟩:=aH rb
 exact P.mul_int ⟨aG s _,.int⟩ h
theorem bin_mod {x y:Int}(h:y≠0):BinS g n .Mod (.int x) ka (.int y) kb (.int (x.fmod y)) k:=λO M A s E va vb r aO aM ra rb=>by
 obtain⟨t,rfl⟩:=aH ra; obtain⟨u,rfl⟩:=aH rb
 exact mod_int' h ⟨aG s _,.int⟩
theorem bin_fdiv {x y:Int}(h:y≠0)(h2:y.natAbs < 1073741824):BinS g n .FloorDiv (.int x) ka (.int y) kb (.int (x.fdiv y)) k:=λO M A s E va vb r aO aM ra rb=>by
 obtain⟨t,rfl⟩:=aH ra; obtain⟨u,rfl⟩:=aH rb
 exact floordiv_int h ⟨aG s _,.int⟩ (.inl (PyProof.noPylong_small h2))
theorem bin_pow {x y:Int}(h:0<=y)(h2:(Builtin.Int.intBits x:Int)*y<=2 ^ 27):BinS g n .Pow (.int x) ka (.int y) kb (.int (x ^ y.toNat)) k:=λO M A s E va vb r aO aM ra rb=>by
 obtain⟨t,rfl⟩:=aH ra; obtain⟨u,rfl⟩:=aH rb
 exact pow_int h h2 ⟨aG s _,.int⟩
theorem bin_cat {y:Str}(h:x.length+y.length<=cap):BinS g n .Add (.str x) ka (.str y) kb (.str (x++y)) k:=λO M A s E va vb r aO aM ra rb=>by
 obtain⟨t,rfl⟩:=dR ra; obtain⟨u,rfl⟩:=dR rb
 refine P.add_str ?_
 have ex:∀z:Str,z.length=0->z=Str.empty:=λz hz=>by
  obtain⟨c⟩:=z
  have:c=#[]:=Array.eq_empty_of_size_eq_zero hz
  subst this; rfl
 split
 ·rename_i h0
  have:=ex x (by simpa using h0)
  subst this
  rw [Str.empty_append]
  exact⟨aD s,.str⟩
 ·split
  ·rename_i h0
   have:=ex y (by simpa using h0)
   subst this
   have e:x++Str.empty=x:=by
    obtain⟨c⟩:=x
    show Str.mk (c++#[])=_
    rw [Array.append_empty]
   rw [e]
   exact⟨aD s,.str⟩
  ·exact⟨by rw [Str.length_append]; exact Nat.le_trans h bI,aG s _,.str⟩
theorem mW {xs ys:List D}(h:xs.length+ys.length<=cap)(ha:ka<=1)(hb:kb<=1):BinS g n .Add (.list xs) ka (.list ys) kb (.list (xs++ys)) 0:=λO M A s E va vb r aO aM ra rb=>by
 obtain⟨a,vs,m,rfl,h1,h2,h3,_,_⟩:=bC ra
 obtain⟨b,ws,m',rfl,h1',h2',h3',_,_⟩:=bC rb
 have l1:=h3.length; have l2:=h3'.length
 rw [Array.length_toList] at l1 l2
 refine P.add_list h2 h2' ⟨aI s _ _,?_⟩ (by rw [l1,l2]; exact Nat.le_trans h bI)
 refine dS aO aM (by rw [Array.size_append,l1,l2]; exact h) ?_
 rw [Array.toList_append]
 exact(h3.le (by omega)).append (h3'.le (by omega))
end
noncomputable def EvsS (g:Glob) (n:Nat) (V:Rho) (es:List Expr) (ds:List D) (k:Nat):Prop :=
 ∀(O M:Avoid) (env:Env) (A:Around) (s:Shared) (E:Value->Shared->Prop) (pos:Pos),g.Up s->Room n A->Alloc O s->Alloc M s->EnvOk O M V env s.heap →
  wpAny g.M A (spliced (backTo pos (starEach es env))) (λvs s'=>Keeps s s'/\Rds O M s'.heap k vs ds) E s
noncomputable def aQ (e:Expr):Bool:=e.ctorIdx != 22
theorem dD {es:List Expr}(h:aQ e=true):starEach (e::es) env=(false,eval e env)::starEach es env:=by
 cases e <;> first | rfl | exact nb h | cases h
section
theorem dX:EvsS g n V [] [] k:=λO M env A s E pos u r aO aM eo=>wpAny_items_nil ⟨aD s,.nil⟩
theorem cQ {es:List Expr}(x:EvS g n V e d k)(y:EvsS g n V es ds k)(hs:aQ e=true):EvsS g n V (e::es) (d::ds) k:=by
 intro O M env A s E pos u r aO aM eo
 refine wpAny_items_cons (x.use u r aO aM eo λv s_1 k1 r1 u1 o1 m1 e1=>wpAny_mono (y O M env A s_1 E pos u1 r o1 m1 e1) (λvs s2 ⟨k2,r2⟩=>⟨aB k1 k2,.cons (r1.keeps (aA k2)) r2⟩) λzw zw z=>z) (dD hs)
theorem jB {es:List Expr}(x:EvsS g n V es ds (k - 1))(hz:ds.length<=cap):EvS g n V (.List es pos) (.list ds) k:=by
 intro O M env A s E u r aO aM eo
 refine wpAny_List (wpAny_mono (x O M env A s E pos u r aO aM eo) (λvs s_1 hJ0=>?_) λzw zw z=>z)
 obtain⟨k1,r1⟩:=hJ0
 have l:=r1.length
 refine⟨by rw [l]; exact Nat.le_trans hz bI,aB k1 (aI s_1 _ _),?_⟩
 exact dS (aO.keeps k1) (aM.keeps k1) (by rw [List.size_toArray,l]; exact hz) r1
theorem ev_tup {es:List Expr}{c:Nat}(x:EvsS g n V es ds (k - 1))(hz:ds.length<=cap):EvS g n V (.Tuple es c pos) (.tuple ds) k:=by
 intro O M env A s E u r aO aM eo
 refine wpAny_Tuple (wpAny_mono (x O M env A s E pos u r aO aM eo) (λvs s_1 hJ0=>?_) λzw zw z=>z)
 obtain⟨k1,r1⟩:=hJ0
 have l:=r1.length
 refine⟨by rw [l]; exact Nat.le_trans hz bI,aB k1 (aI s_1 _ _),?_⟩
 exact eG (aO.keeps k1) (aM.keeps k1) (by rw [List.size_toArray,l]; exact hz) r1
end
end
section
mutual
noncomputable def bD:D->Bool
 | .none | .bool _ | .int _ | .str _=>true
 | .list xs | .tuple xs=>plainDs xs
 | .dict _=>false
noncomputable def plainDs:List D->Bool
 | []=>true
 | x::xs=>bD x && plainDs xs
end
mutual
theorem fN:∀{d:D},d.canLay0=true->bD d=true
 | .none,_=>by simp only [bD]
 | .bool _,_=>by simp only [bD]
 | .int _,_=>by simp only [bD]
 | .str _,_=>by simp only [bD]
 | .list xs,h=>by
  simp only [bD]
  exact plains_of_canLay (by simpa [PyData.canLay0] using h)
 | .tuple xs,h=>by
  simp only [bD]
  exact plains_of_canLay (by simpa [PyData.canLay0] using h)
 | .dict _,h=>by simp [PyData.canLay0] at h
theorem plains_of_canLay:∀{xs:List D},PyData.canLayAll0 xs=true->plainDs xs=true
 | [],_=>by simp only [plainDs]
 | x::xs,h=>by
  have h':x.canLay0=true/\PyData.canLayAll0 xs=true:=by simpa [PyData.canLayAll0] using h
  simp only [plainDs,fN h'.1,plains_of_canLay h'.2,Bool.and_self]
end
theorem bK {x:D}{xs:List D}(h:plainDs (x::xs)=true):bD x=true/\plainDs xs=true:=by simpa [plainDs] using h
theorem eR {xs:List D}(h:bD (.list xs)=true):plainDs xs=true:=by simpa [bD] using h
theorem gB {xs:List D}(h:bD (.tuple xs)=true):plainDs xs=true:=by simpa [bD] using h
theorem jL:∀(xs:List Int),plainDs (xs.map .int)=true
 | []=>by simp [plainDs]
 | x::xs=>by simp [plainDs,bD,jL xs]
theorem a8 (h:SeqAt.shaped d=true):bD d=true:=fN (SeqAt.canLay_of_shaped h)
theorem Rd.reads (hp:bD d=true)(x:Rd O M h k v d):∃as,Reads h v d as :=
 Rd.rec (motive_1:=λzw v d zw=>bD d=true->∃as,Reads h v d as) (motive_2:=λzw v d zw=>plainDs d=true->∃as,ReadsAll h v d as)
  (λzw=>⟨_,.none⟩) (λzw=>⟨_,.bool _⟩) (λzw=>⟨_,.int _ _⟩) (λzw=>⟨_,.str _ _⟩) (λhp=>by simp [objD,bD] at hp)
  (λzw zw zw h4 zw i hp=>(i (eR hp)).elim λzw r=>⟨_,.list h4 rfl rfl r⟩) (λzw zw zw h4 zw i hp=>(i (gB hp)).elim λzw r=>⟨_,.tuple h4 rfl rfl r⟩)
  (λzw=>⟨_,.nil⟩) (λzw zw i j hp=>(i (bK hp).1).elim λzw r=>(j (bK hp).2).elim λzw q=>⟨_,.cons r q⟩) x hp
noncomputable def CmpS (g:Glob) (n:Nat) (op:CmpOp) (a:D) (ka:Nat) (b:D) (kb:Nat) (r:Bool):Prop :=
 ∀(O M:Avoid) (A:Around) (s:Shared) (E:Value->Shared->Prop) (va vb:Value) (Q:Value->Shared->Prop),Room n A->Rd O M s.heap ka va a->Rd O M s.heap kb vb b->Q (.bool r) s->wpAny g.M A (compareOp op va vb) Q E s
theorem xC (r:Room n A)(h:1<=n):A.units+64 < cLine:=by have:=r.units; grind
section
variable {ka kb:Nat}
theorem mS {x y:Int}:CmpS g n .Eq (.int x) ka (.int y) kb (x==y):=λO M A s E va vb Q r ra rb q=>by
 obtain⟨t,rfl⟩:=aH ra; obtain⟨u,rfl⟩:=aH rb; exact P.eq_int q
theorem vL {x y:Int}:CmpS g n .NotEq (.int x) ka (.int y) kb (x != y):=λO M A s E va vb Q r ra rb q=>by
 obtain⟨t,rfl⟩:=aH ra; obtain⟨u,rfl⟩:=aH rb; exact P.ne_int q
theorem vM {x y:Int}:CmpS g n .Lt (.int x) ka (.int y) kb (decide (x < y)):=λO M A s E va vb Q r ra rb q=>by
 obtain⟨t,rfl⟩:=aH ra; obtain⟨u,rfl⟩:=aH rb; exact P.lt_int q
theorem vN {x y:Int}:CmpS g n .LtE (.int x) ka (.int y) kb (decide (x<=y)):=λO M A s E va vb Q r ra rb q=>by
 obtain⟨t,rfl⟩:=aH ra; obtain⟨u,rfl⟩:=aH rb; exact P.le_int q
theorem vP {x y:Int}:CmpS g n .Gt (.int x) ka (.int y) kb (decide (x > y)):=λO M A s E va vb Q r ra rb q=>by
 obtain⟨t,rfl⟩:=aH ra; obtain⟨u,rfl⟩:=aH rb; exact P.gt_int q
theorem vQ {x y:Int}:CmpS g n .GtE (.int x) ka (.int y) kb (decide (x>=y)):=λO M A s E va vb Q r ra rb q=>by
 obtain⟨t,rfl⟩:=aH ra; obtain⟨u,rfl⟩:=aH rb; exact P.ge_int q
theorem vR {y:Str}:CmpS g n .Eq (.str x) ka (.str y) kb (x.cps.toList==y.cps.toList):=λO M A s E va vb Q r ra rb q=>by
 obtain⟨t,rfl⟩:=dR ra; obtain⟨u,rfl⟩:=dR rb; exact P.eq_str q
theorem vK {y:Str}:CmpS g n .NotEq (.str x) ka (.str y) kb (x.cps.toList != y.cps.toList):=λO M A s E va vb Q r ra rb q=>by
 obtain⟨t,rfl⟩:=dR ra; obtain⟨u,rfl⟩:=dR rb; exact P.ne_str q
theorem cmp_eq {a b:D}(ha:SeqAt.shaped a=true)(hb:SeqAt.shaped b=true)(hn:1<=n):CmpS g n .Eq a ka b kb (PyData.eqv a b):=λO M A s E va vb Q r ra rb q=>by
 obtain⟨as,ra⟩:=ra.reads (a8 ha); obtain⟨bs,rb⟩:=rb.reads (a8 hb)
 exact eq_dataH ra rb ha hb (xC r hn) q
theorem cmp_ne {a b:D}(ha:SeqAt.shaped a=true)(hb:SeqAt.shaped b=true)(hn:1<=n):CmpS g n .NotEq a ka b kb (!PyData.eqv a b):=λO M A s E va vb Q r ra rb q=>by
 obtain⟨as,ra⟩:=ra.reads (a8 ha); obtain⟨bs,rb⟩:=rb.reads (a8 hb)
 exact ne_dataH ra rb ha hb (xC r hn) q
theorem lV {xs:List D}(ha:SeqAt.shaped d=true)(hb:SeqAt.shaped (.list xs)=true)(hn:1<=n):CmpS g n .NotIn d ka (.list xs) kb (!xs.any λy=>PyData.eqv y d):=λO M A s E va vb Q r ra rb q=>by
 obtain⟨as,ra⟩:=ra.reads (a8 ha); obtain⟨bs,rb⟩:=rb.reads (a8 hb)
 have h1:=SeqAt.canLay_of_shaped ha; have h2:=SeqAt.canLay_of_shaped hb; have h3:=SeqAt.depth_of_shaped ha
 refine SeqAt.notIn_list_reads rb ra (by simpa [PyData.canLay0] using h2) h1 ?_ q
 have:=r.units
 have h4:=Nat.min_le_right (PyData.depthAll xs) (PyData.depth d)
 grind
theorem vO {y:Str}:CmpS g n .In (.str y) ka (.str x) kb (!(Builtin.Str.occurrences x y 0 x.length 1).isEmpty):=λO M A s E va vb Q r ra rb q=>by
 obtain⟨t,rfl⟩:=dR ra; obtain⟨u,rfl⟩:=dR rb; exact P.in_str q
noncomputable def isN:D->Bool
 | .none=>true
 | _=>false
theorem pB (r:Rd O M h k v d):(v==.none)=isN d:=by
 cases r <;> rfl
theorem hG {a:D}:CmpS g n .Is a ka .none kb (isN a):=λO M A s E va vb Q r ra rb q=>by
 have:=kH rb; subst this
 exact is_none (by rw [pB ra]; exact q)
theorem dC {a:D}:CmpS g n .IsNot a ka .none kb (!isN a):=λO M A s E va vb Q r ra rb q=>by
 have:=kH rb; subst this
 exact isNot_none (by rw [pB ra]; exact q)
end
section
theorem ev_cmp {l r:Expr}{op:CmpOp}{a b:D}{c:Bool}{ka kb:Nat}(x:EvS g n V l a ka)(y:EvS g n V r b kb)(q:CmpS g n op a ka b kb c)(hm:behindInMarks op r=false):EvS g n V (.Compare l [op] [r] pos) (.bool c) k:=by
 intro O M env A s E u rm aO aM eo
 refine wpAny_Compare1 (x.use u rm aO aM eo λva s_1 k1 r1 u1 o1 m1 e1=>y.use u1 rm o1 m1 e1 λvb s2 k2 r2 u2 o2 m2 e2=>?_) hm
 exact q O M A s2 E va vb _ rm (r1.keeps (aA k2)) r2 ⟨aB k1 k2,.bool⟩
end
noncomputable def TestS (g:Glob) (n:Nat) (V:Rho) (e:Expr) (b:Bool):Prop :=
 ∀(O M:Avoid) (env:Env) (A:Around) (s:Shared) (E:Value->Shared->Prop),g.Up s->Room n A->Alloc O s->Alloc M s->EnvOk O M V env s.heap →
  wpAny g.M A (isTrue e env (eval e env)) (λc s'=>Keeps s s'/\c=b) E s
theorem TestS.use {b:Bool}(x:TestS g n V e b){Q:Bool->Shared->Prop}
  (u:g.Up s) (r:Room n A) (aO:Alloc O s) (aM:Alloc M s) (eo:EnvOk O M V env s.heap)
  (q:∀s',Keeps s s'->g.Up s'->Alloc O s'->Alloc M s'->EnvOk O M V env s'.heap->Q b s'):wpAny g.M A (isTrue e env (eval e env)) Q E s :=
 wpAny_mono (x O M env A s E u r aO aM eo) (λc s' ⟨a,hb⟩=>by subst hb; exact q s' a (u.keeps a) (aO.keeps a) (aM.keeps a) (eo.keeps (aA a))) λzw zw z=>z
noncomputable def dI:D->Bool
 | .none=>false
 | .bool b=>b
 | .int i=>i != 0
 | .str x=>(x.length:Int) != 0
 | .list xs=>!xs.isEmpty
 | .tuple xs=>!xs.isEmpty
 | .dict xs=>!xs.isEmpty
noncomputable def pQ:D->Bool
 | .str x=>decide (x.length<=cap)
 | .tuple _=>false
 | .dict _=>false
 | _=>true
set_option tactic.hygienic true in
theorem rW {Q:Bool->Shared->Prop}(r:Rd O M s.heap k v d)(hl:pQ d=true)
  (q:∀s',Keeps s s'->Q (dI d) s'):wpAny g.M A (truthy v) Q E s:=by
 cases r with
 | none=>exact PyProof.Rows.truthy_none (q s (aD s))
 | bool=>exact wpAny_truthy_bool (q s (aD s))
 | int=>exact P.truthy_int (q s (aD s))
 | str =>
  rename_i x t
  have h:x.length<=cap:=of_decide_eq_true hl
  have hc:cap=100000:=rfl
  exact P.truthy_str (by omega) (q _ (aG s _))
 | list h1 h2 h3 h4 h5 =>
  rename_i a vs m ds
  have hc:cap=100000:=rfl
  refine wpAny_truthy_list (IsL.isList h4) (by omega) ?_
  have e:(!vs.isEmpty)=dI (.list ds):=by
   have l:=h5.length
   rw [Array.length_toList] at l
   unfold dI Array.isEmpty
   cases ds with
   | nil=>rw [l]; rfl
   | cons d ds=>rw [l]; rfl
  rw [e]
  exact q _ (aG s _)
 | tup=>cases hl
 | obj=>cases hl
noncomputable def iO (e:Expr):Bool:=e.ctorIdx != 0 && e.ctorIdx != 3 && e.ctorIdx != 5 && e.ctorIdx != 15
section
theorem fZ (x:EvS g n V e d k)(hl:pQ d=true)(hp:iO e=true):TestS g n V e (dI d):=by
 intro O M env A s E u rm aO aM eo
 refine wpAny_isTrue_value (x.use u rm aO aM eo λv s_1 k1 r1 zw zw zw zw=>rW r1 hl λs' k'=>⟨aB k1 k',rfl⟩) ?_
 cases e <;> first | rfl | (cases hp; done) | (rename_i op _ _; cases op <;> first | rfl | exact nb hp | cases hp)
theorem rX {l r:Expr}{op:CmpOp}{a b:D}{c:Bool}{ka kb:Nat}(x:EvS g n V l a ka)(y:EvS g n V r b kb)(q:CmpS g n op a ka b kb c)(hm:behindInMarks op r=false):TestS g n V (.Compare l [op] [r] pos) c:=by
 intro O M env A s E u rm aO aM eo
 refine wpAny_isTrue_Compare1 (x.use u rm aO aM eo λva s_1 k1 r1 u1 o1 m1 e1=>y.use u1 rm o1 m1 e1 λvb s2 k2 r2 u2 o2 m2 e2=>?_) hm
 exact q O M A s2 E va vb _ rm (r1.keeps (aA k2)) r2 (wpAny_truthy_bool ⟨aB k1 k2,rfl⟩)
theorem test_not {b:Bool}(x:TestS g n V e b):TestS g n V (.UnaryOp .Not e pos) (!b):=by
 intro O M env A s E u rm aO aM eo
 exact wpAny_isTrue_Not (x.use u rm aO aM eo λs_1 k1 zw zw zw zw=>⟨k1,rfl⟩)
noncomputable def AllS (g:Glob) (n:Nat) (V:Rho) (op:BoolOp) (es:List Expr) (b:Bool):Prop :=
 ∀(O M:Avoid) (env:Env) (A:Around) (s:Shared) (E:Value->Shared->Prop),g.Up s->Room n A->Alloc O s->Alloc M s->EnvOk O M V env s.heap →
  wpAny g.M A (allTrue op es env) (λc s'=>Keeps s s'/\c=b) E s
theorem rP:AllS g n V .And [] true:=λO M env A s E u rm aO aM eo=>wpAny_allTrue_And_nil ⟨aD s,rfl⟩
theorem wB:AllS g n V .Or [] false:=λO M env A s E u rm aO aM eo=>wpAny_allTrue_Or_nil ⟨aD s,rfl⟩
theorem jQ {es:List Expr}{b c:Bool}(x:TestS g n V e b)(y:b=true->AllS g n V .And es c):AllS g n V .And (e::es) (b && c):=by
 intro O M env A s E u rm aO aM eo
 refine wpAny_allTrue_And_cons (x.use u rm aO aM eo λs_1 k1 u1 o1 m1 e1=>?_)
 cases b with
 | false=>exact⟨k1,rfl⟩
 | true=>exact wpAny_mono (y rfl O M env A s_1 E u1 rm o1 m1 e1) (λc' s' ⟨a,hb⟩=>⟨aB k1 a,by rw [hb]; rfl⟩) λzw zw z=>z
theorem lM {es:List Expr}{b c:Bool}(x:TestS g n V e b)(y:b=false->AllS g n V .Or es c):AllS g n V .Or (e::es) (b || c):=by
 intro O M env A s E u rm aO aM eo
 refine wpAny_allTrue_Or_cons (x.use u rm aO aM eo λs_1 k1 u1 o1 m1 e1=>?_)
 cases b with
 | true=>exact⟨k1,rfl⟩
 | false=>exact wpAny_mono (y rfl O M env A s_1 E u1 rm o1 m1 e1) (λc' s' ⟨a,hb⟩=>⟨aB k1 a,by rw [hb]; rfl⟩) λzw zw z=>z
theorem eC {op:BoolOp}{es:List Expr}{b:Bool}(x:AllS g n V op es b):TestS g n V (.BoolOp op es pos) b:=by
 intro O M env A s E u rm aO aM eo
 exact wpAny_isTrue_BoolOp (x O M env A s E u rm aO aM eo)
theorem tB {t a b:Expr}{c:Bool}(x:TestS g n V t c)(y:c=true->EvS g n V a d k)(z:c=false->EvS g n V b d k):EvS g n V (.IfExp t a b pos) d k:=by
 intro O M env A s E u rm aO aM eo
 refine wpAny_IfExp (x.use u rm aO aM eo λs_1 k1 u1 o1 m1 e1=>?_)
 cases c with
 | true=>exact wpAny_mono (y rfl O M env A s_1 E u1 rm o1 m1 e1) (λc' s' ⟨a,hb⟩=>⟨aB k1 a,hb⟩) λzw zw z=>z
 | false=>exact wpAny_mono (z rfl O M env A s_1 E u1 rm o1 m1 e1) (λc' s' ⟨a,hb⟩=>⟨aB k1 a,hb⟩) λzw zw z=>z
theorem ev_or2 {x y:Expr}{a:D}{ka:Nat}(hx:EvS g n V x a ka)(hl:pQ a=true)(ht:dI a=true->a=d/\ka<=k)(hf:dI a=false->EvS g n V y d k):EvS g n V (.BoolOp .Or [x,y] pos) d k:=by
 intro O M env A s E u rm aO aM eo
 refine wpAny_Or2 (hx.use u rm aO aM eo λv s_1 k1 r1 u1 o1 m1 e1=>rW r1 hl λs2 k2=>?_)
 cases hb:dI a with
 | true=>obtain⟨rfl,hk⟩:=ht hb; exact⟨aB k1 k2,(r1.keeps (aA k2)).le hk⟩
 | false=>exact wpAny_mono (hf hb O M env A s2 E (u1.keeps k2) rm (o1.keeps k2) (m1.keeps k2) (e1.keeps (aA k2))) (λc' s' ⟨a,hb⟩=>⟨aB k1 (aB k2 a),hb⟩) λzw zw z=>z
theorem ev_neg {i:Int}{ka:Nat}(x:EvS g n V e (.int i) ka):EvS g n V (.UnaryOp .USub e pos) (.int (-i)) k:=by
 intro O M env A s E u rm aO aM eo
 refine wpAny_UnaryOp (x.use u rm aO aM eo λv s_1 k1 r1 zw zw zw zw=>?_)
 ((show let Q0:=_; wpAny _ _ _ Q0 _ _); intro Q0)
 obtain⟨t,rfl⟩:=aH r1
 exact P.neg_int ⟨aB k1 (aG _ _),.int⟩
end
end
section
noncomputable def idxD:D->Int->Option D
 | .list xs,i=>(seqIndex? i xs.length).bind (xs[·]?)
 | .tuple xs,i=>(seqIndex? i xs.length).bind (xs[·]?)
 | .str x,i=>if x.length<=cap then ((seqIndex? i x.length).bind (x.cps[·]?)).map λc=>.str ⟨#[c]⟩ else none
 | _,_=>none
theorem gR {i:Int}{j:Nat}(h:seqIndex? i n=some j):j < n/\-(n:Int)<=i/\i < n/\(0<=i->i.toNat=j)/\(i < 0->(i+n).toNat=j):=by
 unfold seqIndex? at h
 dsimp only at h
 by_cases h0:i < 0
 ·simp only [h0,if_true] at h
  by_cases c:(decide (0<=i+(n:Int)) && decide (i+(n:Int) < n))=true
  ·rw [if_pos c] at h
   have h:=Option.some.inj h
   simp only [Bool.and_eq_true,decide_eq_true_eq] at c
   omega
  ·rw [if_neg c] at h; cases h
 ·simp only [h0,if_false] at h
  by_cases c:(decide (0<=i) && decide (i < (n:Int)))=true
  ·rw [if_pos c] at h
   have h:=Option.some.inj h
   simp only [Bool.and_eq_true,decide_eq_true_eq] at c
   omega
  ·rw [if_neg c] at h; cases h
noncomputable def SubS (g:Glob) (n:Nat) (a:D) (ka:Nat) (b:D) (kb:Nat) (d:D) (k:Nat):Prop :=
 ∀(O M:Avoid) (A:Around) (s:Shared) (E:Value->Shared->Prop) (va vb:Value) (Q:Value->Shared->Prop) (value slice:Expr),notSlice slice=true->Room n A->Alloc O s->Alloc M s->Rd O M s.heap ka va a->Rd O M s.heap kb vb b →
  (∀v s',Keeps s s'->Rd O M s'.heap k v d->Q v s')->wpAny g.M A (subscriptTail value slice va vb) Q E s
where
 notSlice (e:Expr):Bool:=e.ctorIdx != 26
theorem aS {slice:Expr}(h:SubS.notSlice slice=true)(o i:Value):subscripted slice false o i=operate [o,i] (getItem o i):=by
 cases slice <;> first | rfl | exact nb h | cases h
section
variable {ka kb:Nat}
set_option tactic.hygienic true in
theorem sub_idx {a:D}{i:Int}(h:idxD a i=some d):SubS g n a ka (.int i) kb d (ka - 1):=by
 intro O M A s E va vb Q value slice hns r aO aM ra rb q
 obtain⟨t,rfl⟩:=aH rb
 have hc:cap=100000:=rfl
 cases ra with
 | none=>cases h
 | bool=>cases h
 | int=>cases h
 | obj=>cases h
 | str =>
  rename_i x u
  have h:(if x.length<=cap then ((seqIndex? i x.length).bind (x.cps[·]?)).map λc=>PyData.str ⟨#[c]⟩ else none)=some d:=h
  by_cases hx:x.length<=cap
  ·rw [if_pos hx] at h
   cases hj:(seqIndex? i x.length).bind (x.cps[·]?) with
   | none=>rw [hj] at h; cases h
   | some c =>
    rw [hj] at h
    cases h
    obtain⟨j,hj1,hj2⟩:=Option.bind_eq_some_iff.mp hj
    have b:=gR hj1
    refine tail_any (typeIs_str s x u) F.slot_str_getitem.lookup (P.getItem_str ?_ hj (q _ _ (aG s _) .str)) (aS hns _ _)
    rw [Bool.or_eq_false_iff]
    exact⟨decide_eq_false (by omega),decide_eq_false (by omega)⟩
  ·rw [if_neg hx] at h; cases h
 | list h1 h2 h3 h4 h5 =>
  rename_i a vs m ds
  obtain⟨j,hj1,hj2⟩:=Option.bind_eq_some_iff.mp h
  have b:=gR hj1
  have l:=h5.length
  rw [Array.length_toList] at l
  obtain⟨v,hv,hr⟩:=h5.get hj2
  rw [Array.getElem?_toList] at hv
  have hi:=IsL.isList h4
  refine tail_any (T:="list") ⟨_,h4,rfl⟩ slot_list_getitem.lookup ?_ (aS hns _ _)
  by_cases h0:0<=i
  ·refine wpAny_getItem_list hi h0 (by omega) ?_ (q _ _ (aD s) hr)
   rw [b.2.2.2.1 h0]; exact hv
  ·refine wpAny_getItem_list_neg hi (by omega) (by rw [l]; omega) (by omega) ?_ (q _ _ (aD s) hr)
   rw [l,b.2.2.2.2 (by omega)]; exact hv
 | tup h1 h2 h3 h4 h5 =>
  rename_i a vs m ds
  obtain⟨j,hj1,hj2⟩:=Option.bind_eq_some_iff.mp h
  have b:=gR hj1
  have l:=h5.length
  rw [Array.length_toList] at l
  obtain⟨v,hv,hr⟩:=h5.get hj2
  rw [Array.getElem?_toList] at hv
  refine tail_any (T:="tuple") ⟨_,h4,rfl⟩ F.slot_tuple_getitem.lookup ?_ (aS hns _ _)
  exact P.getItem_tuple h4 (by omega) (by omega) (by rw [l]; exact hj1) hv (q _ _ (aD s) hr)
theorem ev_sub {i:Expr}{a b:D}(x:EvS g n V e a ka)(y:EvS g n V i b kb)(q:SubS g n a ka b kb d k)(hs:SubS.notSlice i=true):EvS g n V (.Subscript e i pos) d k:=by
 intro O M env A s E u rm aO aM eo
 refine Subscript_ (x.use u rm aO aM eo λva s_1 k1 r1 u1 o1 m1 e1=>y.use u1 rm o1 m1 e1 λvb s2 k2 r2 u2 o2 m2 e2=>?_)
 exact q O M A s2 E va vb _ e i hs rm o2 m2 (r1.keeps (aA k2)) r2 λv s' k' r'=>⟨aB k1 (aB k2 k'),r'⟩
theorem ev_item {i:Expr}{a:D}{z:Int}(x:EvS g n V e a ka)(y:EvS g n V i (.int z) kb)(h:idxD a z=some d)(hk:ka<=k+1)(hs:SubS.notSlice i=true):EvS g n V (.Subscript e i pos) d k:=by
 have:=ev_sub (pos:=pos) x y (sub_idx h) hs
 intro O M env A s E u rm aO aM eo
 exact wpAny_mono (this O M env A s E u rm aO aM eo) (λv s' ⟨a,b⟩=>⟨a,b.le (by omega)⟩) λzw zw z=>z
end
noncomputable def i0 (g:Glob) (n:Nat) (V:Rho) (e:Option Expr) (p:Option Int):Prop :=
 match e with
 | none=>p=none
 | some e=>∃k,EvS g n V e (match p with | some i=>.int i | none=>.none) k
theorem d3 {e:Option Expr}{p:Option Int}(x:i0 g n V e p)
  (u:g.Up s) (r:Room n A) (aO:Alloc O s) (aM:Alloc M s) (eo:EnvOk O M V env s.heap)
  (q:∀v s',Keeps s s'->IsPart v p->g.Up s'->Alloc O s'->Alloc M s'->EnvOk O M V env s'.heap->Q v s'):wpAny g.M A (evalPart e env) Q E s:=by
 cases e with
 | none =>
  cases x
  exact wpAny_pure (q _ _ (aD s) .none u aO aM eo)
 | some e =>
  obtain⟨k,x⟩:=x
  refine x.use u r aO aM eo λv s' k' r' u' o' m' e'=>q v s' k' ?_ u' o' m' e'
  cases p with
  | none=>have:=kH r'; subst this; exact .none
  | some i=>obtain⟨t,rfl⟩:=aH r'; exact .int _ _
noncomputable def dK (xs:List D) (lo hi st:Option Int):List D :=
 (sliceRange (sliceBounds lo hi st xs.length).1 (sliceBounds lo hi st xs.length).2.1 (sliceBounds lo hi st xs.length).2.2).filterMap (xs[·]?)
theorem Rds.pick {O M:Avoid}{h:Heap}{k:Nat}{vs:List Value}{ds:List D}(r:Rds O M h k vs ds):∀(is:List Nat),Rds O M h k (is.filterMap (vs[·]?)) (is.filterMap (ds[·]?))
 | []=>.nil
 | i::is=>by
  have ih:=r.pick is
  cases hv:vs[i]? with
  | none =>
   have l:=r.length
   have:ds[i]?=none:=by rw [List.getElem?_eq_none_iff] at hv ⊢; omega
   simp only [List.filterMap_cons,hv,this]
   exact ih
  | some v =>
   obtain⟨d,hd,hr⟩:=r.getV hv
   simp only [List.filterMap_cons,hv,hd]
   exact .cons hr ih
theorem cV {lo hi st:Option Expr}(o i:Value):∃ops,subscripted (.Slice lo hi st p) false o i=operate ops (getItem o i):=by
 cases st with
 | none=>exact⟨_,rfl⟩
 | some e=>exact⟨_,rfl⟩
section
theorem rJ {lo hi st:Option Expr}{xs:List D}{l h t:Option Int}{ka:Nat}(x:EvS g n V e (.list xs) ka)(hl:i0 g n V lo l)(hh:i0 g n V hi h)(ht:i0 g n V st t)(h0:t≠some 0)(hk:ka - 1<=k - 1) :
  EvS g n V (.Subscript e (.Slice lo hi st p) pos) (.list (dK xs l h t)) k:=by
 intro O M env A s E u rm aO aM eo
 refine Subscript_ (x.use u rm aO aM eo λva s_1 k1 r1 u1 o1 m1 e1=>wpAny_Slice (d3 hl u1 rm o1 m1 e1 λvl s2 k2 p2 u2 o2 m2 e2=>d3 hh u2 rm o2 m2 e2 λvh s3 k3 p3 u3 o3 m3 e3=>d3 ht u3 rm o3 m3 e3 λvt s4 k4 p4 u4 o4 m4 e4=>?_))
 ((show let Q0:=_; wpAny _ _ _ Q0 _ _); intro Q0)
 have k5:Keeps s_1 { s4 with heap:=s4.heap.push { cls:=.type "slice",data:=.fields #[vl,vh,vt] } }:=aB k2 (aB k3 (aB k4 (aI s4 _ _)))
 have r5:=r1.keeps (aA k5)
 obtain⟨a,vs,m,rfl,h1,h2,h3,_,_⟩:=bC r5
 obtain⟨ops,hops⟩:=cV (lo:=lo) (hi:=hi) (st:=st) (p:=p) (.ref a) (.ref s4.heap.objs.size)
 have sz:=h3.length
 rw [Array.length_toList] at sz
 refine tail_any (T:="list") ⟨_,h2,rfl⟩ slot_list_getitem.lookup (wpAny_getItem_list_slice (IsL.isList h2) (Heap.IsSliceOf.new ..) p2 p3 p4 h0 ⟨aB k1 (aB k5 (aI _ _ _)),?_⟩ (Nat.le_trans h1 bI)) hops
 refine dS ((o1.keeps k5)) ((m1.keeps k5)) (Nat.le_trans (slicePick_size_le ..) h1) ?_
 unfold slicePick dK
 rw [<- sz]
 have e:((sliceRange (sliceBounds l h t vs.size).1 (sliceBounds l h t vs.size).2.1 (sliceBounds l h t vs.size).2.2).filterMap (vs[·]?)).toArray.toList=(sliceRange (sliceBounds l h t vs.size).1 (sliceBounds l h t vs.size).2.1 (sliceBounds l h t vs.size).2.2).filterMap (vs.toList[·]?):=by
  simp
 rw [e]
 exact(h3.pick _).le hk
theorem vH {lo hi:Option Expr}{l h:Option Int}{ka:Nat}(hx:EvS g n V e (.str x) ka)(hl:i0 g n V lo l)(hh:i0 g n V hi h)(hz:x.length<=cap) :
  EvS g n V (.Subscript e (.Slice lo hi none p) pos) (.str (Txt.slice x l h)) k:=by
 intro O M env A s E u rm aO aM eo
 refine Subscript_ (hx.use u rm aO aM eo λva s_1 k1 r1 u1 o1 m1 e1=>wpAny_Slice (d3 hl u1 rm o1 m1 e1 λvl s2 k2 p2 u2 o2 m2 e2=>d3 hh u2 rm o2 m2 e2 λvh s3 k3 p3 u3 o3 m3 e3=>wpAny_pure (a:=Value.none) ?_))
 have k5:Keeps s_1 { s3 with heap:=s3.heap.push { cls:=.type "slice",data:=.fields #[vl,vh,.none] } }:=aB k2 (aB k3 (aI s3 _ _))
 obtain⟨t,rfl⟩:=dR r1
 obtain⟨ops,hops⟩:=cV (lo:=lo) (hi:=hi) (st:=none) (p:=p) (.str x t) (.ref s3.heap.objs.size)
 have hpl:∃pl:Option (Int×Tok),vl=partValue pl/\pl.map (·.1)=l:=by cases p2 with | none=>exact⟨none,rfl,rfl⟩ | int i u=>exact⟨some (i,u),rfl,rfl⟩
 have hph:∃ph:Option (Int×Tok),vh=partValue ph/\ph.map (·.1)=h:=by cases p3 with | none=>exact⟨none,rfl,rfl⟩ | int i u=>exact⟨some (i,u),rfl,rfl⟩
 obtain⟨pl,rfl,rfl⟩:=hpl
 obtain⟨ph,rfl,rfl⟩:=hph
 refine tail_any (T:="str") (typeIs_str _ x t) F.slot_str_getitem.lookup (wpAny_getItem_str_slice (l:=pl) (u:=ph) (st:=none) ⟨_,Heap.get?_push_size _ rfl,rfl,rfl⟩ rfl ?_) hops
 unfold sliceMade Txt.slice slicePicked
 simp only [Option.map_none,Option.getD_none]
 split
 ·exact⟨aB k1 k5,.str⟩
 ·refine⟨?_,aB k1 (aB k5 (aG _ _)),.str⟩
  show(List.toArray _).size<=sizeLine
  rw [List.size_toArray]
  exact Nat.le_trans (List.length_filterMap_le _ _) (Nat.le_trans (indices_len_le _ _ _) (Nat.le_trans hz bI))
end
end
set_option backward.match.sparseCases true
noncomputable def aZ (g:Glob) (n:Nat) (f:Value) (ds:List D) (ks:Nat) (d:D) (k:Nat):Prop :=
 ∀(O M:Avoid) (A:Around) (s:Shared) (E:Value->Shared->Prop) (vs:List Value),g.Up s->Room n A->Alloc O s->Alloc M s->Rds O M s.heap ks vs ds →
  wpAny g.M A (call f vs) (λv s'=>Keeps s s'/\Rd O M s'.heap k v d) E s
inductive Callee (g:Glob):Str->Value->Prop where
 | fn {x:Str} {a:Addr} {c:Value} {dd:Option Addr} {fd:FuncData} {sl:Array (Option Value)}:nsIn g.K mainGlobals x=some (some (.ref a))->g.K.lookup a=some ⟨c,dd,.func fd,sl⟩->Callee g x (.ref a)
 | bt {x:Str} {id:String}:nsIn g.K mainGlobals x=some none->bootBuiltins x=some (.builtin id)->x≠"__name__"->Callee g x (.builtin id)
 | ty {x:Str} {T:String}:nsIn g.K mainGlobals x=some none->bootBuiltins x=some (.type T)->x≠"__name__"->Callee g x (.type T)
theorem aL {pos:Pos}{env:Env}:∀{es:List Expr},es.all aQ=true->(backTo pos (starEach es env)).any (·.1)=false
 | [],_=>rfl
 | e::es,h=>by
  simp only [List.all_cons,Bool.and_eq_true] at h
  have ih:=aL (pos:=pos) (env:=env) h.2
  have:starEach (e::es) env=(false,eval e env)::starEach es env:=dD h.1
  rw [this]
  show(false || (backTo pos (starEach es env)).any (·.1))=false
  rw [ih]; rfl
theorem aK {M:Model}{f:Value}{es:List Expr}{Q:Args->Shared->Prop}(hs:es.all aQ=true)
  (h:wpAny M A (spliced (backTo pos (starEach es env))) (λvs s'=>Q ⟨vs,[]⟩ s') E s):wpAny M A (evalArgs f true (backTo pos (starEach es env)) []) Q E s:=by
 cases es with
 | nil =>
  unfold evalArgs
  show wpAny M A (spliced [] >>= _) Q E s
  refine wpAny_bind (wpAny_mono h (λvs s' h'=>?_) λzw zw x=>x)
  refine wpAny_holding ?_
  exact wpAny_bind (wpAny_pure (wpAny_bind (wpAny_pure (wpAny_pure h'))))
 | cons e es =>
  simp only [List.all_cons,Bool.and_eq_true] at hs
  have:starEach (e::es) env=(false,eval e env)::starEach es env:=dD hs.1
  rw [this] at h ⊢
  exact Calls.evalArgs_plain h
section
theorem lC {es:List Expr}{ks:Nat}{f:Value}(hf:Callee g x f)(hsc:V.sc.lookup x=some .globalImplicit)(hd:(x==("__debug__":Str))=false)(hs:es.all aQ=true)
  (a:EvsS g n V es ds ks) (c:aZ g n f ds ks d k):EvS g n V (.Call (.Name x p) es [] pos) d k:=by
 intro O M env A s E u rm aO aM eo
 have tail:wpAny g.M A (spliced (backTo pos (starEach es env))) (λvs s_1=>g.Up s_1/\wpAny g.M A (call f vs) (λv s'=>Keeps s s'/\Rd O M s'.heap k v d) E s_1) E s :=
  wpAny_mono (a O M env A s E pos u rm aO aM eo) (λvs s_1 ⟨k1,r1⟩=>⟨u.keeps k1,wpAny_mono (c O M A s_1 E vs (u.keeps k1) rm (aO.keeps k1) (aM.keeps k1) r1) (λv s' ⟨k2,r2⟩=>⟨aB k1 k2,r2⟩) λzw zw z=>z⟩) λzw zw z=>z
 refine Call_ ?_
 cases hf with
 | fn h1 h2 =>
  refine bG u eo hsc h1 hd ?_
  refine Calls.callWith_function (aK hs (wpAny_mono tail (λvs s_1 ⟨u1,h_1⟩=>⟨⟨u1 _ _ (g.X _ _ h2),rfl⟩,h_1⟩) λzw zw z=>z))
 | bt h1 h2 h3 =>
  refine aT u eo hsc h1 h2 h3 hd ?_
  exact Calls.callWith_builtin (aL hs) (aK hs (wpAny_mono tail (λvs s_1 ⟨u1,h_1⟩=>h_1) λzw zw z=>z))
 | ty h1 h2 h3 =>
  refine aT u eo hsc h1 h2 h3 hd ?_
  exact PySem.callWith_type (aL hs) (aK hs (wpAny_mono tail (λvs s_1 ⟨u1,h_1⟩=>h_1) λzw zw z=>z))
end
set_option backward.match.sparseCases false
section
noncomputable abbrev yW (xs:List Int):D:=.list (xs.map .int)
theorem cG {O M:Avoid}{h:Heap}{k:Nat}:∀{xs:List Int} {vs:List Value},Rds O M h k vs (xs.map .int)->∃ys:List (Int×Tok),vs=ys.map (λp=>Value.int p.1 p.2)/\ys.map (·.1)=xs
 | [],_,.nil=>⟨[],rfl,rfl⟩
 | x::xs,_,.cons a b=>by
  obtain⟨t,rfl⟩:=aH a
  obtain⟨ys,rfl,e⟩:=cG b
  exact⟨(x,t)::ys,rfl,by rw [List.map_cons,e]⟩
theorem bH {O M:Avoid}{h:Heap}{k:Nat}:∀(ys:List (Int×Tok)),Rds O M h k (ys.map (λp=>Value.int p.1 p.2)) ((ys.map (·.1)).map .int)
 | []=>.nil
 | y::ys=>.cons .int (bH ys)
theorem d4 {tk:Nat}(h:∀b o,s.heap.get? b=some o->h'.get? b=some o):Keeps s { s with heap:=h',toks:=tk }:=⟨h',tk,rfl,h⟩
section
variable {ks:Nat}
theorem call_int {i:Int}:aZ g n (.type "int") [.int i] ks (.int i) k:=λO M A s E vs u r aO aM rs=>by
 obtain⟨v,rfl,a⟩:=rs.one_inv
 obtain⟨t,rfl⟩:=aH a
 exact call_int_int ⟨aD s,.int⟩
theorem vX {xs:List D}:aZ g n (.builtin "len") [.list xs] ks (.int xs.length) k:=λO M A s E vs u r aO aM rs=>by
 obtain⟨v,rfl,a⟩:=rs.one_inv
 obtain⟨a,vs,m,rfl,h1,h2,h3,_,_⟩:=bC a
 have l:=h3.length
 rw [Array.length_toList] at l
 have hc:cap=100000:=rfl
 refine Calls.call_len_list (IsL.isList h2) (by grind) ?_
 rw [l]
 exact⟨aG s _,.int⟩
theorem vW (hx:x.length<=cap):aZ g n (.builtin "len") [.str x] ks (.int x.length) k:=λO M A s E vs u r aO aM rs=>by
 obtain⟨v,rfl,a⟩:=rs.one_inv
 obtain⟨t,rfl⟩:=dR a
 have hc:cap=100000:=rfl
 exact P.len_str (by grind) ⟨aG s _,.int⟩
theorem z6 {a b:Int}:aZ g n (.builtin "min") [.int a,.int b] ks (.int (min a b)) k:=λO M A s E vs u r aO aM rs=>by
 cases rs with | cons x rs=>cases rs with | cons y rs=>cases rs with | nil =>
  obtain⟨t,rfl⟩:=aH x; obtain⟨u,rfl⟩:=aH y
  refine min_two_ints r.handled λh' tk hk=>⟨d4 hk,?_⟩
  split
  ·rw [Int.min_eq_right (by grind)]; exact .int
  ·rw [Int.min_eq_left (by grind)]; exact .int
theorem z7 {a b:Int}:aZ g n (.builtin "max") [.int a,.int b] ks (.int (max a b)) k:=λO M A s E vs u r aO aM rs=>by
 cases rs with | cons x rs=>cases rs with | cons y rs=>cases rs with | nil =>
  obtain⟨t,rfl⟩:=aH x; obtain⟨u,rfl⟩:=aH y
  refine max_two_ints r.handled λh' tk hk=>⟨d4 hk,?_⟩
  split
  ·rw [Int.max_eq_right (by grind)]; exact .int
  ·rw [Int.max_eq_left (by grind)]; exact .int
theorem rd_ints {xs:List Int}(x:Rd O M h k v (yW xs)):∃a ys m,v=.ref a/\ys.size<=cap/\IsL h a (intItems ys) m/\ys.toList.map (·.1)=xs:=by
 obtain⟨a,vs,m,rfl,h1,h2,h3,_,_⟩:=bC x
 obtain⟨ys,e,hx⟩:=cG h3
 have:vs=intItems ys.toArray:=by
  apply Array.ext'
  rw [e]; simp [intItems]
 subst this
 exact⟨a,ys.toArray,m,rfl,by simpa [intItems] using h1,h2,by simpa using hx⟩
theorem vU {xs:List Int}:aZ g n (.builtin "sum") [yW xs] ks (.int xs.sum) k:=λO M A s E vs u r aO aM rs=>by
 cases rs with | cons a0 b=>cases b with | nil =>
  obtain⟨a,ys,m,rfl,h1,h2,h3⟩:=rd_ints a0
  refine call_sum_walkG (iter_intList (IsL.isList h2) λs2 e st hfp hlI=>?_)
  subst e
  refine⟨_,_,_,_,_,_,numAt ys,rfl,Walks.list (A:=A.in1) r.handled _ a hlI (intItems ys),st,hfp,(λzw zw=>intItems_at),λh' tk t' hk=>⟨d4 (old_kept hk),?_⟩⟩
  have e:preSum (numAt ys) (intItems ys).size=xs.sum:=by
   have hl:(intItems ys).size=(ys.toList.map (·.1)).length:=by simp [intItems]
   rw [preSum_eq,hl,List.take_length,h3]
  rw [e]; exact .int
end
noncomputable def eS (e:Expr):Bool:=e.ctorIdx != 16
theorem mY {o:Expr}{name:Str}(h:eS o=true):attributeBase o name env (eval o env)=eval o env:=by
 cases o <;> first | rfl | exact nb h | cases h
section
theorem ev_lower {apos:Pos}{ka:Nat}(hx:EvS g n V e (.str x) ka)(hz:(Txt.lower x).length<=cap)(hb:eS e=true)(hl:(apos.endLine==pos.line)=true) :
  EvS g n V (.Call (.Attribute e "lower" apos) [] [] pos) (.str (Txt.lower x)) k:=by
 intro O M env A s E u rm aO aM eo
 refine Call_method0 (mY hb) hl (hx.use u rm aO aM eo λv s_1 k1 r1 u1 o1 m1 e1=>?_)
 obtain⟨t,rfl⟩:=dR r1
 exact SB.lower (decide_eq_false (by have:=bI; grind)) ⟨aB k1 (aG _ _),.str⟩
end
end
noncomputable def Chg (P:Avoid) (s s':Shared):Prop:=(∃h' tk,s'={ s with heap:=h',toks:=tk })/\∀b o,¬P b->s.heap.get? b=some o->s'.heap.get? b=some o
theorem Chg.refl {P:Avoid}:Chg P s s:=⟨⟨_,_,rfl⟩,λzw zw zw e=>e⟩
theorem Chg.trans {P:Avoid}{s'':Shared}(a:Chg P s s')(b:Chg P s' s''):Chg P s s'':=by
 obtain⟨⟨h,tk,rfl⟩,k⟩:=a
 obtain⟨⟨h',tk',rfl⟩,k'⟩:=b
 exact⟨⟨h',tk',rfl⟩,λb o hb e=>k' b o hb (k b o hb e)⟩
theorem Chg.of_keeps {P:Avoid}(a:Keeps s s'):Chg P s s':=by
 obtain⟨h,t,rfl,k⟩:=a
 exact⟨⟨h,t,rfl⟩,λb o zw e=>k b o e⟩
theorem Chg.mono {P P':Avoid}(a:Chg P s s')(h:∀b,P b->P' b):Chg P' s s':=⟨a.1,λb o hb e=>a.2 b o (λz=>hb (h b z)) e⟩
theorem Chg.up {P:Avoid}(a:Chg P s s')(u:g.Up s)(h:∀b o,g.h.get? b=some o->¬P b):g.Up s':=λb o e=>a.2 b o (h b o e) (u b o e)
noncomputable def Tgt (tt:Bool) (target:Expr):Prop:=match tt with
 | false=>∃x p,target=.Name x p
 | true=>∃es k p,target=.Tuple es k p
structure Wid (M W M':Avoid) (s_1:Shared):Prop where
 up:∀b,M b->M' b
 new:∀b,M' b->M b\/W b\/s_1.heap.get? b=none
theorem Wid.refl {W:Avoid}{s_1:Shared}:Wid M W M s_1:=⟨λzw h=>h,λzw h=>.inl h⟩
theorem Wid.not {W M':Avoid}{sa s_1:Shared}(w:Wid M W M' s_1)(k:Keeps sa s_1)(hW:∀b,W b->sa.heap.get? b=none){b:Addr}(hb:(sa.heap.get? b).isSome=true)(h:¬M b):¬M' b:=λz=>by
 obtain⟨o,e⟩:=Option.isSome_iff_exists.mp hb
 rcases w.new b z with z | z | z
 ·exact h z
 ·rw [hW b z] at e; cases e
 ·rw [aA k _ _ e] at z; cases z
theorem Wid.rds {O' W M':Avoid}{sa s_1:Shared}(w':Wid O W O' s_1)(w:Wid M W M' s_1)(k:Keeps sa s_1)(hW:∀b,W b->sa.heap.get? b=none){vs:List Value}(r:Rds O M sa.heap 0 vs ds):Rds O' M' sa.heap 0 vs ds :=
 r.imp (λb hb h=>w'.not k hW hb h) (λb hb zw h=>w.not k hW hb h) (Nat.le_refl _)
noncomputable def isFS (o:Obj):Bool:=match o.data with
 | .fields _=>true
 | .seq _ _=>true
 | _=>false
structure Itr (g:Glob) (A:Around) (tt:Bool) (it:Value) (ds:List D) (O M W:Avoid) (s s_1:Shared) (St:Nat->Heap->Prop):Prop where
 start:St 0 s_1.heap
 wnew:∀b,W b->s.heap.get? b=none/\∃o,s_1.heap.get? b=some o
 kinds:∀i h,St i h->∀b,W b->∃o,h.get? b=some o/\isFS o=true
 frame:∀i h h',St i h->(∀b o,¬O b->¬M b->(∃o',s_1.heap.get? b=some o')->h.get? b=some o->h'.get? b=some o)->St i h'
 item:∀(O' M':Avoid) i d (t:Shared) (target:Expr) (E:Value->Shared->Prop) (Q:Value->Shared->Prop),Wid O W O' s_1->Wid M W M' s_1->Tgt tt target->ds[i]?=some d->St i t.heap->Alloc O' t->Alloc M' t →
  (∀v t_2,Chg W t t_2->Rd O' M' t_2.heap 0 v d->St (i+1) t_2.heap->Q v t_2) →
  wpAny g.M A (pyNext it) (λr t_1=>∃v,r=some v/\wpAny g.M A (letOwnedTupleGo target it v) (λzw t_2=>Q v t_2) E t_1) E t
 done:∀(t:Shared) (E:Value->Shared->Prop) (Q:Option Value->Shared->Prop),St ds.length t.heap->(∀t_1,Chg W t t_1->Q none t_1)->wpAny g.M A (pyNext it) Q E t
 self:∀(t:Shared) (E:Value->Shared->Prop) (Q:Value->Shared->Prop),St 0 t.heap->Q it t->wpAny g.M A (pyIter it) Q E t
noncomputable def Agree (O M:Avoid) (sa:Shared) (h:Heap):Prop:=∀b c vs n,¬O b->¬M b->sa.heap.get? b=some { cls:=c,data:=.seq vs n }->h.get? b=some { cls:=c,data:=.seq vs n }
theorem Agree.refl {sa s_1:Shared}(k:Keeps sa s_1):Agree O M sa s_1.heap:=λzw zw zw zw zw zw e=>aA k _ _ e
theorem Rd.both (hk:∀b c vs n,¬O b->¬M b->h.get? b=some { cls:=c,data:=.seq vs n }->h'.get? b=some { cls:=c,data:=.seq vs n })(e:k=0)(x:Rd O M h k v d):Rd O M h' k v d :=
 x.gen (λk k'=>k=0/\k'=0) iB (λe a b c=>⟨a,λzw=>b e.1,hk _ _ _ _ a (b e.1) c⟩) ⟨e,e⟩
theorem Agree.rd {O' M':Avoid}{sa:Shared}(a:Agree O M sa h)(up':∀b,O b->O' b)(up:∀b,M b->M' b)(r:Rd O' M' sa.heap 0 v d):Rd O' M' h 0 v d:=r.both (λb c vs n ho hb e=>a b c vs n (λz=>ho (up' b z)) (λz=>hb (up b z)) e) rfl
theorem cC {t:Shared}{Q:Unit->Shared->Prop}{it:Value}(h:Tgt false target)(q:Q () t):wpAny g.M A (letOwnedTupleGo target it v) Q E t:=by
 obtain⟨x,p,rfl⟩:=h
 exact wpAny_pure (a:=()) q
theorem bZ {sa:Shared}(k:Keeps s sa):s.heap.get? sa.heap.objs.size=none:=by
 cases h:s.heap.get? sa.heap.objs.size with
 | none=>rfl
 | some o=>exact absurd (Heap.lt_size (aA k _ _ h)) (Nat.lt_irrefl _)
theorem cJ {sa:Shared}(k:Keeps s sa){b:Addr}(hb:sa.heap.objs.size<=b):s.heap.get? b=none:=by
 cases h:s.heap.get? b with
 | none=>rfl
 | some o=>exact absurd (Heap.lt_size (aA k _ _ h)) (Nat.not_lt.mpr hb)
noncomputable def isTup:D->Bool
 | .tuple _=>true
 | _=>false
section
theorem itr_list {tt:Bool}{sa s_1:Shared}{it:Addr}{vs:Array Value}{m:Nat}(hh:A.handled=none)(k0:Keeps s sa)(k1:Keeps sa s_1)(hn:sa.heap.get? it=none)(h1:s_1.heap.IsListIter it a 0)(aOa:Alloc O sa)(aM:Alloc M sa)(hO:¬O a)(hM:¬M a)(hl:IsL sa.heap a vs m)(r:Rds O M sa.heap 0 vs.toList ds)(ht:tt=true->ds.all isTup=true) :
  Itr g A tt (.ref it) ds O M (λb=>b=it) s s_1 (λi h=>h.IsListIter it a i/\Agree O M sa h):=by
 have hlen:=r.length
 rw [Array.length_toList] at hlen
 have hW:∀b,b=it->sa.heap.get? b=none:=λb hb=>hb ▸ hn
 have f1:∃o,s_1.heap.get? it=some o:=h1.elim λo zq=>zq.elim λh zw=>⟨o,h⟩
 have nO:¬O it:=λz=>by obtain⟨o,e⟩:=aOa _ z; exact no (hn.symm.trans e)
 have nM:¬M it:=λz=>by obtain⟨o,e⟩:=aM _ z; exact no (hn.symm.trans e)
 refine⟨⟨h1,Agree.refl k1⟩,λb hb=>by
   subst hb
   refine⟨?_,f1⟩
   cases e:s.heap.get? b with
   | none=>rfl
   | some o=>exact no (hn.symm.trans (aA k0 _ _ e)),λi h st b hb=>by
   subst hb
   obtain⟨o,ho,hc,hd⟩:=st.1
   exact⟨o,ho,by unfold isFS; rw [hd]⟩,
  λi h h' st hk=>st.1.elim λo zq=>⟨⟨o,hk _ _ nO nM f1 zq.1,zq.2⟩,λb c ws n ho hb e=>hk _ _ ho hb ⟨_,aA k1 _ _ e⟩ (st.2 b c ws n ho hb e)⟩,?_,?_,?_⟩
 ·intro O' M' i d t target E Q wd' wd htg hd hJ0 aO aM' q
  obtain⟨hit,ag⟩:=hJ0
  obtain⟨v,hv,hr⟩:=(wd'.rds wd k1 hW r).get hd
  have hl':t.heap.IsList a vs:=IsL.isList (ag a _ _ _ hO hM hl)
  refine wpAny_pyNext_list_item hit hl' (by rw [<- Array.getElem?_toList]; exact hv) λh' hit' hs'=>⟨v,rfl,?_⟩
  have ag':Agree O M sa h':=λb c ws n ho hb e=>hs'.extBut b _ (λz=>no (hn.symm.trans (z ▸ e))) (ag b c ws n ho hb e)
  have fin:=q v { t with heap:=h' } ⟨⟨h',t.toks,rfl⟩,λb o hb e=>hs'.extBut b o hb e⟩ (ag'.rd wd'.up wd.up hr) ⟨hit',ag'⟩
  cases tt with
  | false=>exact cC htg fin
  | true =>
   obtain⟨es,k,p,rfl⟩:=htg
   have hd':isTup d=true:=List.all_eq_true.mp (ht rfl) d (List.mem_of_getElem? hd)
   cases hr with
   | tup=>exact wpAny_letOwnedTupleGo_listiter hit' fin
   | _=>first | exact no hd' | exact nb hd' | cases hd'
 ·intro t E Q hJ0 q
  obtain⟨hit,ag⟩:=hJ0
  exact wpAny_pyNext_list_end hh hit (IsL.isList (ag a _ _ _ hO hM hl)) (by rw [<- hlen]; simp) λh' he'=>q _ ⟨⟨h',t.toks,rfl⟩,λb o hb e=>he' b o hb e⟩
 ·intro t E Q hJ0 q
  obtain⟨hit,ag⟩:=hJ0
  exact wpAny_pyIter_listiter hit q
end
noncomputable def IterS (g:Glob) (n:Nat) (V:Rho) (tt:Bool) (e:Expr) (ds:List D):Prop :=
 ∀(O M:Avoid) (env:Env) (A:Around) (s:Shared) (E:Value->Shared->Prop) (Q:Value->Shared->Prop),g.Up s->Room n A->Alloc O s->Alloc M s->EnvOk O M V env s.heap →
  (∀it s_1 W St,Keeps s s_1->Itr g A tt it ds O M W s s_1 St->Q it s_1)->wpAny g.M A (eval e env) (λx s'=>wpAny g.M A (pyIter x) Q E s') E s
section
theorem pS {tt:Bool}(x:EvS g n V e (.list ds) 0)(ht:tt=true->ds.all isTup=true):IterS g n V tt e ds:=by
 intro O M env A s E Q u rm aO aM eo q
 refine x.use u rm aO aM eo λv sa k1 r1 u1 o1 m1 e1=>?_
 obtain⟨a,vs,m,rfl,h1,h2,h3,h4,h5⟩:=bC r1
 exact wpAny_pyIter_list (IsL.isList h2) (q _ _ _ _ (aB k1 (aI sa _ _)) (itr_list rm.handled k1 (aI sa _ _) (bZ (aD sa)) ⟨_,Heap.get?_push_size _ rfl,rfl,rfl⟩ o1 m1 h4 (h5 rfl) h2 h3 ht))
end
noncomputable def bF (a b c:Int):List Int:=(List.range (Builtin.Range.rangeSize a b c).toNat).map λ(i:Nat)=>a+(i:Int)*c
section
theorem yS {sa:Shared}{a c:Int}(hh:A.handled=none)(k0:Keeps s sa)(aOa:Alloc O sa)(aM:Alloc M sa) :
  Itr g A false (.ref sa.heap.objs.size) (((List.range n).map λ(i:Nat)=>a+(i:Int)*c).map .int) O M (λb=>b=sa.heap.objs.size) s { sa with heap:=sa.heap.push { cls:=.type "range_iterator",data:=.fields #[rawInt a,rawInt (n:Int),rawInt c] } }
   (λi h=>IsRangeIter h sa.heap.objs.size (a+(i:Int)*c) ((n:Int) - (i:Int)) c):=by
 have W:=Walks.range (prog:=g.prog) (w:=g.w) (A:=A) hh sa.heap.objs.size a c n
 have h1:∃o,({ sa with heap:=sa.heap.push { cls:=.type "range_iterator",data:=.fields #[rawInt a,rawInt (n:Int),rawInt c] } }:Shared).heap.get? sa.heap.objs.size=some o:=⟨_,Heap.get?_push_size _ rfl⟩
 refine⟨?_,λb hb=>by subst hb; exact⟨bZ k0,h1⟩,λi h st b hb=>by subst hb; exact⟨_,st,rfl⟩,λi h h' st hk=>hk _ _ aOa.new aM.new h1 st,?_,?_,?_⟩
 ·show IsRangeIter (sa.heap.push _) _ _ _ _
  have:a+((0:Nat):Int)*c=a:=by simp
  rw [this]
  have:(n:Int) - ((0:Nat):Int)=n:=by simp
  rw [this]
  exact Heap.get?_push_size _ rfl
 ·intro O' M' i d t target E Q wd' wd htg hd st aO aM' q
  have hi:i < n:=by
   have:=(List.getElem?_eq_some_iff.mp hd).1
   simpa using this
  have hd':d=.int (a+(i:Int)*c):=by
   simp [hi] at hd
   exact hd.symm
  subst hd'
  refine W.item i t _ E hi st λv h' tk hv st' hk=>⟨v,rfl,?_⟩
  obtain⟨u,rfl⟩:=hv
  exact cC htg (q _ _ ⟨⟨_,_,rfl⟩,λb o hb e=>hk b o (by simpa using hb) e⟩ .int st')
 ·intro t E Q st q
  have hl:(((List.range n).map λ(i:Nat)=>a+(i:Int)*c).map PyData.int).length=n:=by simp
  rw [hl] at st
  exact W.done t Q E st λh' tk hk=>q _ ⟨⟨_,_,rfl⟩,λb o hb e=>hk b o (by simpa using hb) e⟩
 ·intro t E Q st q
  exact W.self 0 t Q E st q
theorem yR {sa:Shared}{t:Tok}{o:Obj}{St:Nat->Heap->Prop}(kd:∀i h,St i h->∃o,h.get? sa.heap.objs.size=some o/\isFS o=true)(W:Walks g.prog g.w A sa.heap.objs.size [sa.heap.objs.size] [sa.heap.objs.size] x.cps.size (SignAt x) St)(hst:St 0 (sa.heap.push o))(ho:o.isFreed=false)(k0:Keeps s sa)(aOa:Alloc O sa)(aM:Alloc M sa) :
  Itr g A false (.ref sa.heap.objs.size) (x.cps.toList.map λc=>.str ⟨#[c]⟩) O M (λb=>b=sa.heap.objs.size) s { sa with heap:=sa.heap.push o } St:=by
 have h1:∃o',({ sa with heap:=sa.heap.push o }:Shared).heap.get? sa.heap.objs.size=some o':=⟨_,Heap.get?_push_size _ ho⟩
 refine⟨hst,λb hb=>by subst hb; exact⟨bZ k0,h1⟩,λi h st b hb=>by subst hb; exact kd i h st,λi h h' st hk=>W.frame _ _ _ st λb hb o e=>?_,?_,?_,?_⟩
 ·rcases List.mem_cons.mp hb with rfl | hb
  ·exact hk _ _ aOa.new aM.new h1 e
  ·cases hb
 ·intro O' M' i d t target E Q wd' wd htg hd st aO aM' q
  simp only [List.getElem?_map,Option.map_eq_some_iff] at hd
  obtain⟨c,hc,rfl⟩:=hd
  have hi:i < x.cps.size:=by simpa using (List.getElem?_eq_some_iff.mp hc).1
  refine W.item i t _ E hi st λv h' tk hv st' hk=>⟨v,rfl,?_⟩
  obtain⟨c',u,hc',rfl⟩:=hv
  rw [Array.getElem?_toList] at hc
  rw [hc] at hc'
  cases hc'
  exact cC htg (q _ _ ⟨⟨_,_,rfl⟩,λb o hb e=>hk b o (by first | omega | simpa using hb) e⟩ .str st')
 ·intro t E Q st q
  rw [List.length_map,Array.length_toList] at st
  exact W.done t Q E st λh' tk hk=>q _ ⟨⟨_,_,rfl⟩,λb o hb e=>hk b o (by first | grind | simpa using hb) e⟩
 ·intro t E Q st q
  exact W.self 0 t Q E st q
end
section
theorem iter_str (hx:EvS g n V e (.str x) k):IterS g n V false e (x.cps.toList.map λc=>.str ⟨#[c]⟩):=by
 intro O M env A s E Q u rm aO aM eo q
 refine hx.use u rm aO aM eo λv sa k1 r1 u1 o1 m1 e1=>?_
 obtain⟨t,rfl⟩:=dR r1
 refine wpAny_pyIter_strU ?_
 cases ha:x.cps.all (· < 128)
 ·have e:strIterType x="str_iterator":=by simp [strIterType,ha]
  rw [e]
  exact q _ _ _ _ (aB k1 (aI sa _ _)) (yR (t:=t) (λi h st=>let ⟨o,ho,hc,hd⟩:=st; ⟨o,ho,by unfold isFS; rw [hd]⟩) (Walks.strWide rm.handled _ x t) ⟨_,Heap.get?_push_size _ rfl,rfl,rfl⟩ rfl k1 o1 m1)
 ·have e:strIterType x="str_ascii_iterator":=by simp [strIterType,ha]
  rw [e]
  exact q _ _ _ _ (aB k1 (aI sa _ _)) (yR (t:=t) (λi h st=>let ⟨o,ho,hc,hd⟩:=st; ⟨o,ho,by unfold isFS; rw [hd]⟩) (Walks.strAscii rm.handled _ x t) ⟨_,Heap.get?_push_size _ rfl,rfl,rfl⟩ rfl k1 o1 m1)
noncomputable def fL (a b c:Int):Bool:=decide (-1000000<=a) && decide (a<=1000000) && decide (-1000000<=b) && decide (b<=1000000) && decide (0 < c) && decide (c<=1000)
theorem iM {a b c:Int}(h:fL a b c=true):0<=Builtin.Range.rangeSize a b c/\Builtin.Range.rangeSize a b c<=2000000/\Builtin.Range.small a b c=true:=by
 unfold fL at h
 simp only [Bool.and_eq_true,decide_eq_true_eq] at h
 obtain⟨⟨⟨⟨⟨h1,h2⟩,h3⟩,h4⟩,h5⟩,h6⟩:=h
 have sz:0<=Builtin.Range.rangeSize a b c/\Builtin.Range.rangeSize a b c<=2000000:=by
  clear h6
  unfold Builtin.Range.rangeSize
  rw [if_pos h5]
  by_cases hab:a < b
  ·rw [if_pos hab]
   have e0:0<=b - a - 1:=by omega
   have e1:=Int.ediv_nonneg e0 (Int.le_of_lt h5)
   have e2:=Int.ediv_le_self c e0
   have e3:b - a - 1+1<=2000000:=by omega
   exact⟨Int.le_add_one e1,Int.le_trans (Int.add_le_add_right e2 1) e3⟩
  ·rw [if_neg hab]; exact⟨Int.le_refl 0,by decide⟩
 refine⟨sz.1,sz.2,?_⟩
 unfold Builtin.Range.small Builtin.Range.rangeFitsLong
 rw [if_pos h5]
 simp only [Bool.and_eq_true,decide_eq_true_eq,Bool.or_eq_true]
 have l:-(2 ^ 63)<=(-1000000:Int):=by decide
 have u:(1000000:Int) < 2 ^ 63:=by decide
 have e1:-(2 ^ 63)<=(0:Int):=by decide
 have e2:(1000:Int) < 2 ^ 63:=by decide
 have e3:(2000000:Int) < 2 ^ 63:=by decide
 have e4:0<=c - 1/\b+(c - 1)<=2000000:=⟨by omega,by omega⟩
 exact⟨⟨⟨⟨⟨Int.le_trans l h1,Int.lt_of_le_of_lt h2 u⟩,Int.le_trans l h3,Int.lt_of_le_of_lt h4 u⟩,Int.le_trans e1 (Int.le_of_lt h5),Int.lt_of_le_of_lt h6 e2⟩,Int.le_trans e1 sz.1,Int.lt_of_le_of_lt sz.2 e3⟩,.inr ⟨Int.le_trans (Int.le_trans l h3) (Int.le_add_of_nonneg_right e4.1),Int.lt_of_le_of_lt e4.2 e3⟩⟩
theorem nQ {sa:Shared}{a b c:Int}{t u v:Tok}{tk:Nat}(h:fL a b c=true)(hh:A.handled=none)(k1:Keeps s sa)(o1:Alloc O sa)(m1:Alloc M sa)
  (q:∀it s_1 W St,Keeps s s_1->Itr g A false it ((bF a b c).map .int) O M W s s_1 St->Q it s_1) :
  wpAny g.M A (pyIter (.ref sa.heap.objs.size)) Q E { sa with heap:=sa.heap.push { cls:=.type "range",data:=.fields #[.int a t,.int b u,.int c v] },toks:=tk }:=by
 obtain⟨z1,z2,z3⟩:=iM h
 have kk:Keeps sa { sa with heap:=sa.heap.push { cls:=.type "range",data:=.fields #[.int a t,.int b u,.int c v] },toks:=tk }:=aI sa _ _
 refine wpAny_pyIter_range (Heap.get?_push_size _ rfl) z3 ?_
 have:=yS (g:=g) (O:=O) (a:=a) (c:=c) (n:=(Builtin.Range.rangeSize a b c).toNat) hh (aB k1 kk) (o1.keeps kk) (m1.keeps kk)
 rw [Int.toNat_of_nonneg z1] at this
 exact q _ _ _ _ (aB k1 (aB kk (aI _ _ _))) this
theorem oB {es:Expr}(x:EvS g n V es d k)(hs:aQ es=true):EvsS g n V [es] [d] k:=cQ x dX hs
theorem dA {b:Int}(hc:Callee g "range" (.type "range"))(hsc:V.sc.lookup ("range":Str)=some .globalImplicit)(x:EvS g n V e (.int b) k)(hs:aQ e=true)(h:fL 0 b 1=true) :
  IterS g n V false (.Call (.Name "range" p) [e] [] pos) ((bF 0 b 1).map .int):=by
 intro O M env A s E Q u rm aO aM eo q
 cases hc with
 | ty h1 h2 h3 =>
  refine Call_ (aT u eo hsc h1 h2 h3 (by decide) (PySem.callWith_type (aL (by simp [hs])) (aK (by simp [hs]) (wpAny_mono (oB x hs O M env A s E pos u rm aO aM eo) (λvs sa hJ0=>?_) λzw zw z=>z))))
  obtain⟨k1,r1⟩:=hJ0
  obtain⟨v,rfl,a⟩:=r1.one_inv
  obtain⟨t,rfl⟩:=aH a
  exact call_range_1 (nQ h rm.handled k1 (aO.keeps k1) (aM.keeps k1) q)
end
section
noncomputable def qC (ds:List D):List D:=(List.range ds.length).map λ(i:Nat)=>.tuple [.int (i:Int),ds.getD i .none]
theorem zM {i:Nat}(h:(qC ds)[i]?=some d):∃x,ds[i]?=some x/\d=.tuple [.int (i:Int),x]:=by
 unfold qC at h
 simp only [List.getElem?_map,Option.map_eq_some_iff] at h
 obtain⟨j,hj,rfl⟩:=h
 obtain⟨hl,rfl⟩:=List.getElem?_eq_some_iff.mp hj
 rw [List.length_range] at hl
 simp only [List.getElem_range]
 exact⟨_,List.getElem?_eq_getElem hl,by simp [List.getD_eq_getElem?_getD,List.getElem?_eq_getElem hl]⟩
theorem qB (ds:List D):(qC ds).length=ds.length:=by first | grind [qC] | simp [qC]
theorem itr_enum {sa s_1:Shared}{en it:Addr}{vs:Array Value}{m:Nat}(hh:A.handled=none)(k0:Keeps s sa)(k1:Keeps sa s_1)(aOa:Alloc O sa)(aM:Alloc M sa)(hO:¬O a)(hM:¬M a)(hl:IsL sa.heap a vs m)(r:Rds O M sa.heap 0 vs.toList ds)
  (l1:@LE.le Nat _ sa.heap.objs.size en) (l2:@LE.le Nat _ sa.heap.objs.size it) (ne:it≠en) (he:IsEnum s_1.heap en it 0 .none) (hi:s_1.heap.IsListIter it a 0) :
  Itr g A true (.ref en) (qC ds) O M (λb=>b=en\/b=it) s s_1 (λi h=>(∃old,IsEnum h en it i old)/\h.IsListIter it a i/\Agree O M sa h):=by
 have hlen:=r.length
 rw [Array.length_toList] at hlen
 have e1:∃o,s_1.heap.get? it=some o:=(hi).elim λo zq=>zq.elim λh zw=>⟨o,h⟩
 have e2:∃o,s_1.heap.get? en=some o:=⟨_,he⟩
 have nO:∀c,@LE.le Nat _ sa.heap.objs.size c->¬O c:=λc hc z=>by obtain⟨o,e⟩:=aOa _ z; exact absurd (Heap.lt_size e) (Nat.not_lt.mpr hc)
 have nM:∀c,@LE.le Nat _ sa.heap.objs.size c->¬M c:=λc hc z=>by obtain⟨o,e⟩:=aM _ z; exact absurd (Heap.lt_size e) (Nat.not_lt.mpr hc)
 have le:∀b,(b=en\/b=it)->@LE.le Nat _ sa.heap.objs.size b:=λb hb=>hb.elim (λz=>z ▸ l1) λz=>z ▸ l2
 have hP:∀b,(b=en\/b=it)->s.heap.get? b=none/\∃o,s_1.heap.get? b=some o:=λb hb=>⟨cJ k0 (le b hb),hb.elim (λz=>z ▸ e2) λz=>z ▸ e1⟩
 have nA:∀{b c ws n},sa.heap.get? b=some { cls:=c,data:=.seq ws n }->b≠en/\b≠it:=λe=>⟨Nat.ne_of_lt (Nat.lt_of_lt_of_le (Heap.lt_size e) l1),Nat.ne_of_lt (Nat.lt_of_lt_of_le (Heap.lt_size e) l2)⟩
 have hW:∀b,(b=en\/b=it)->sa.heap.get? b=none:=λb hb=>cJ (aD sa) (le b hb)
 refine⟨⟨⟨_,he⟩,hi,Agree.refl k1⟩,hP,?_,?_,?_,?_,?_⟩
 ·intro i h hJ b hb
  obtain⟨⟨old,h1⟩,⟨o,ho,hc,hd⟩,ag⟩:=hJ
  rcases hb with rfl | rfl
  ·exact⟨_,h1,rfl⟩
  ·exact⟨o,ho,by unfold isFS; rw [hd]⟩
 ·intro i h h' hJ hk
  obtain⟨⟨old,h1⟩,⟨o,ho,hr⟩,ag⟩:=hJ
  exact⟨⟨old,hk _ _ (nO _ l1) (nM _ l1) e2 h1⟩,⟨o,hk _ _ (nO _ l2) (nM _ l2) e1 ho,hr⟩,λb c ws n ho hb e=>hk _ _ ho hb ⟨_,aA k1 _ _ e⟩ (ag b c ws n ho hb e)⟩
 ·intro O' M' i d t target E Q wd' wd htg hd hJ0 aO aM' q
  obtain⟨⟨old,h1⟩,hit,ag⟩:=hJ0
  obtain⟨x,hx,rfl⟩:=zM hd
  obtain⟨v,hv,hr⟩:=(wd'.rds wd k1 hW r).get hx
  obtain⟨es,k,p,rfl⟩:=htg
  have hl':t.heap.IsList a vs:=IsL.isList (ag a _ _ _ hO hM hl)
  refine wpAny_pyNext_enum_item h1 hit hl' (by rw [<- Array.getElem?_toList]; exact hv) ne.symm λh' ho hit' hT hsz hk=>⟨_,rfl,?_⟩
  refine wpAny_letOwnedTupleGo_enum ho λh'' he'' hs''=>?_
  have nt:∀{b o},t.heap.get? b=some o->b≠t.heap.objs.size:=λe=>Nat.ne_of_lt (Heap.lt_size e)
  have ag':Agree O M sa h'':=λb c ws n ho hb e=>by
   have z:=nA e
   have e':=hk b _ z.1 z.2 (ag b c ws n ho hb e)
   exact hs''.extBut b _ z.1 e'
  have eff:Chg (λb=>b=en\/b=it) t { t with heap:=h'',toks:=t.toks+1 }:=⟨⟨_,_,rfl⟩,λb o hb e=>hs''.extBut b o (λz=>hb (.inl z)) (hk b o (λz=>hb (.inl z)) (λz=>hb (.inr z)) e)⟩
  have hne:t.heap.objs.size≠en:=Nat.ne_of_gt (Heap.lt_size h1)
  refine q _ _ eff ?_ ⟨⟨_,by simpa using he''⟩,?_,ag'⟩
  ·refine .tup aO.new (λzw=>aM'.new) (by show 2<=cap; decide) (hs''.extBut _ _ hne hT) (.cons .int (.cons (ag'.rd wd'.up wd.up hr) .nil))
  ·obtain⟨o,ho',hr'⟩:=hit'
   exact⟨o,hs''.extBut _ _ ne ho',hr'⟩
 ·intro t E Q hJ0 q
  obtain⟨⟨old,h1⟩,hit,ag⟩:=hJ0
  rw [qB] at h1 hit
  refine wpAny_pyNext_enum_end hh h1 hit (IsL.isList (ag a _ _ _ hO hM hl)) (by rw [<- hlen]; simp) λh' he'=>q _ ⟨⟨_,t.toks,rfl⟩,λb o hb e=>he' b o (λz=>hb (.inr z)) e⟩
 ·intro t E Q hJ0 q
  obtain⟨⟨old,h1⟩,hit,ag⟩:=hJ0
  exact wpAny_pyIter_enum h1 q
noncomputable def zipL (xs ys:List D):List D:=(xs.zip ys).map λp=>.tuple [p.1,p.2]
theorem zipL_get {xs ys:List D}{i:Nat}(h:(zipL xs ys)[i]?=some d):∃x y,xs[i]?=some x/\ys[i]?=some y/\d=.tuple [x,y]:=by
 unfold zipL at h
 simp only [List.getElem?_map,Option.map_eq_some_iff] at h
 obtain⟨⟨x,y⟩,hj,rfl⟩:=h
 obtain⟨h1,h2⟩:=List.getElem?_zip_eq_some.mp hj
 exact⟨x,y,h1,h2,rfl⟩
theorem zip_le {N:Nat}:∀c:Addr,(c=(N+4:Nat)\/c=(N+3:Nat)\/c=N\/c=(N+1:Nat))->@LE.le Nat _ N c:=λc h=>by
 rcases h with h | h | h | h
 ·exact h ▸ Nat.le_add_right N 4
 ·exact h ▸ Nat.le_add_right N 3
 ·exact h ▸ Nat.le_refl N
 ·exact h ▸ Nat.le_add_right N 1
end
section
theorem yU (hc:Callee g "enumerate" (.type "enumerate"))(hsc:V.sc.lookup ("enumerate":Str)=some .globalImplicit)(x:EvS g n V e (.list ds) 0)(hs:aQ e=true) :
  IterS g n V true (.Call (.Name "enumerate" p) [e] [] pos) (qC ds):=by
 intro O M env A s E Q u rm aO aM eo q
 cases hc with
 | ty h1 h2 h3 =>
  refine Call_ (aT u eo hsc h1 h2 h3 (by decide) (PySem.callWith_type (aL (by simp [hs])) (aK (by simp [hs]) (wpAny_mono (oB x hs O M env A s E pos u rm aO aM eo) (λvs sa hJ0=>?_) λzw zw z=>z))))
  obtain⟨k1,r1⟩:=hJ0
  obtain⟨v,rfl,a⟩:=r1.one_inv
  obtain⟨l,us,m,rfl,g1,g2,g3,g4,g5⟩:=bC a
  refine call_enumerate_list (IsL.isList g2) λh' he hi hz hk=>wpAny_pyIter_enum he ?_
  exact q _ _ _ _ (aB k1 (d4 (tk:=sa.toks) hk)) (itr_enum rm.handled k1 (d4 (tk:=sa.toks) hk) (aO.keeps k1) (aM.keeps k1) g4 (g5 rfl) g2 g3 (Nat.le_add_right _ 1) (Nat.le_refl _) (Nat.ne_of_lt (Nat.lt_succ_self _)) he hi)
end
structure FrameOk (env:Env) (h:Heap):Prop where
 ns:∃m,h.Ns env.locals m
 cell:∀x,env.kindOf x=some .cell->∃c v,env.cells.lookup x=some c/\h.IsCell c v
theorem FrameOk.keeps (x:FrameOk env h)(hk:∀b o,h.get? b=some o->h'.get? b=some o):FrameOk env h' :=
 ⟨(x.ns).elim λm e=>⟨m,e.keeps hk⟩,λy hy=>let ⟨c,v,a,b⟩:=x.cell y hy; ⟨c,v,a,b.keeps hk⟩⟩
noncomputable def fK (env:Env) (x:Str):Addr:=match env.kindOf x with
 | some .local=>env.locals
 | _=>(env.cells.lookup x).getD 0
structure Stored (env:Env) (x:Str) (h h':Heap):Prop where
 same:Heap.SameBut (fK env x) h h'
 seqs:∀b c vs n,h.get? b=some { cls:=c,data:=.seq vs n }->h'.get? b=some { cls:=c,data:=.seq vs n }
theorem dT {b:Addr}{m:Str->Option Value}{c:Value}{vs:Array Value}(x:h.Ns a m)(y:h.get? b=some { cls:=c,data:=.seq vs n }):b≠a:=λz=>by
 subst z
 obtain⟨o,es,ep,ho,hd,_⟩:=x
 rw [ho] at y
 cases y
 cases hd
theorem rL {b:Addr}{v:Option Value}{c:Value}{vs:Array Value}(x:h.IsCell a v)(y:h.get? b=some { cls:=c,data:=.seq vs n }):b≠a:=λz=>by
 subst z
 obtain⟨o,ho,hd⟩:=x
 rw [ho] at y
 cases y
 cases hd
theorem dO {b:Addr}{m:Str->Option Value}{v:Option Value}(x:h.Ns a m)(y:h.IsCell b v):b≠a:=λz=>by
 subst z
 obtain⟨o,es,ep,ho,hd,_⟩:=x
 obtain⟨o',ho',hd'⟩:=y
 rw [ho] at ho'
 cases ho'
 rw [hd] at hd'
 cases hd'
theorem mG {y:Str}{d':D}{k':Nat}(h:(V.set x d k).vars.lookup y=some (d',k')):(y=x/\d'=d/\k'=k)\/(y≠x/\V.vars.lookup y=some (d',k')):=by
 unfold Rho.set at h
 rw [List.lookup_cons] at h
 cases hb:y==x with
 | true=>rw [hb] at h; cases h; exact .inl ⟨beq_iff_eq.mp hb,rfl,rfl⟩
 | false=>rw [hb] at h; exact .inr ⟨λz=>by rw [z] at hb; simp at hb,h⟩
theorem iD {Q:Unit->Shared->Prop}(eo:EnvOk O M V env s.heap)(fo:FrameOk env s.heap)
  (hx:env.kindOf x=some .local\/env.kindOf x=some .cell) (r:Rd O M s.heap k v d) (ho:k≠0->OwnV M v)
  (q:∀h' tk,Stored env x s.heap h'->EnvOk O M (V.set x d k) env h'->FrameOk env h'->Q () { s with heap:=h',toks:=tk }):wpAny g.M A (storeName env x v) Q E s:=by
 obtain⟨m,hm⟩:=fo.ns
 rcases hx with hx | hx
 ·have hsl:fK env x=env.locals:=by unfold fK; rw [hx]
  refine wpAny_storeName_local hx hm (λh' hn hs=>?_) (by rw [eo.kind]; rfl)
  have sq:∀b c vs n,s.heap.get? b=some { cls:=c,data:=.seq vs n }->h'.get? b=some { cls:=c,data:=.seq vs n }:=λb c vs n e=>hs.extBut b _ (dT hm e) e
  refine q h' _ ⟨by rw [hsl]; exact hs,sq⟩ ⟨eo.kind,eo.gl,eo.bl,eo.sc,eo.apart,λy d' k' hy=>?_⟩ ⟨⟨_,hn⟩,λy hy=>?_⟩
  ·rcases mG hy with ⟨rfl,rfl,rfl⟩ | ⟨hne,hy⟩
   ·exact⟨v,.inl ⟨hx,_,hn,if_pos rfl⟩,r.seqs sq,ho⟩
   ·obtain⟨w,hw,hr,ow⟩:=eo.vars y d' k' hy
    refine⟨w,?_,hr.seqs sq,ow⟩
    rcases hw with ⟨a,m',b,c⟩ | ⟨a,c,b,e⟩
    ·refine .inl ⟨a,_,hn,?_⟩
     have:m' y=m y:=by
      obtain⟨o,es,ep,ho,hd,_,hf⟩:=hm
      obtain⟨o',es',ep',ho',hd',_,hf'⟩:=b
      rw [ho] at ho'; cases ho'
      rw [hd] at hd'; cases hd'
      rw [<- hf,<- hf']
     show(if y=x then some v else m y)=some w
     rw [if_neg hne,<- this]; exact c
    ·obtain⟨o,ho,hd⟩:=e
     exact .inr ⟨a,c,b,⟨o,hs.extBut _ _ (dO hm ⟨o,ho,hd⟩) ho,hd⟩⟩
  ·obtain⟨c,w,a,o,ho,hd⟩:=fo.cell y hy
   exact⟨c,w,a,o,hs.extBut _ _ (dO hm ⟨o,ho,hd⟩) ho,hd⟩
 ·obtain⟨c,v0,hc,hcell⟩:=fo.cell x hx
  have hsl:fK env x=c:=by unfold fK; rw [hx,hc]; rfl
  refine wpAny_storeName_cell eo.kind hx hc hcell λh' hn hs=>?_
  have sq:∀b c vs n,s.heap.get? b=some { cls:=c,data:=.seq vs n }->h'.get? b=some { cls:=c,data:=.seq vs n }:=λb c vs n e=>hs.extBut b _ (rL hcell e) e
  have hm':h'.Ns env.locals m:=by
   obtain⟨o,es,ep,ho,rest⟩:=hm
   exact⟨o,es,ep,hs.extBut _ _ (Ne.symm (dO ⟨o,es,ep,ho,rest⟩ hcell)) ho,rest⟩
  refine q h' _ ⟨by rw [hsl]; exact hs,sq⟩ ⟨eo.kind,eo.gl,eo.bl,eo.sc,eo.apart,λy d' k' hy=>?_⟩ ⟨⟨m,hm'⟩,λy hy=>?_⟩
  ·rcases mG hy with ⟨rfl,rfl,rfl⟩ | ⟨hne,hy⟩
   ·exact⟨v,.inr ⟨.inl hx,c,hc,hn⟩,r.seqs sq,ho⟩
   ·obtain⟨w,hw,hr,ow⟩:=eo.vars y d' k' hy
    refine⟨w,?_,hr.seqs sq,ow⟩
    rcases hw with ⟨a,m',b,c'⟩ | ⟨a,c',b,e⟩
    ·obtain⟨o,es,ep,ho,rest⟩:=b
     exact .inl ⟨a,m',⟨o,es,ep,hs.extBut _ _ (Ne.symm (dO ⟨o,es,ep,ho,rest⟩ hcell)) ho,rest⟩,c'⟩
    ·obtain⟨o,ho,hd⟩:=e
     exact .inr ⟨a,c',b,⟨o,hs.extBut _ _ (λz=>hne (eo.apart y x c' b (z ▸ hc))) ho,hd⟩⟩
  ·obtain⟨c',w,a,o,ho,hd⟩:=fo.cell y hy
   by_cases hcc:c'=c
   ·subst hcc
    exact⟨c',some v,a,hn⟩
   ·exact⟨c',w,a,o,hs.extBut _ _ hcc ho,hd⟩
noncomputable def onNm {β:Type} (f:Str->Pos->Option β) (e:Expr):Option β:=if h:e.ctorIdx=23 then Expr.Name.elim (motive_1:=λzw=>Option β) e h f else none
theorem qW {β:Type}{f:Str->Pos->Option β}{r:β}{P:Expr->Prop}(h:onNm f e=some r)(k:∀a b,f a b=some r->P (.Name a b)):P e :=
 if hh:e.ctorIdx=23 then Expr.Name.elim (motive_1:=λe=>onNm f e=some r->P e) e hh k h else no ((dif_neg hh).symm.trans h)
noncomputable def aW (e:Expr):Option Str:=onNm (λx zw=>some x) e
noncomputable def aR (e:Expr):Option (List Str):=if h:e.ctorIdx=23 then Expr.Name.elim (motive_1:=λzw=>Option (List Str)) e h λx zw=>some [x] else if h:e.ctorIdx=25 then Expr.Tuple.elim (motive_1:=λzw=>Option (List Str)) e h λes zw zw=>es.mapM aW else none
noncomputable def cR (V:Rho):List Str->List D->Option Rho
 | [],[]=>some V
 | x::xs,d::ds=>cR (V.set x d 0) xs ds
 | _,_=>none
noncomputable def jG (V:Rho):Expr->D->Option Rho
 | .Name x _,d=>some (V.set x d 0)
 | .Tuple es _ _,.tuple ds=>(es.mapM aW).bind λxs=>cR V xs ds
 | _,_=>none
noncomputable def d7 (env:Env) (x:Str):Prop:=env.kindOf x=some .local\/env.kindOf x=some .cell
section
theorem iZ (t:Value->Sem Unit)(ts:List (Value->Sem Unit))(x:Value)(xs:List Value):assignInOrder (t::ts) (x::xs)=(do holding xs (t x); assignInOrder ts xs):=rfl
theorem lW {P:Avoid}:∀(es:List Expr) (xs:List Str) (vs:List Value) (ds:List D) (V V':Rho) (s:Shared) (Q:Unit->Shared->Prop),es.mapM aW=some xs->cR V xs ds=some V' →
  (∀x∈xs,d7 env x/\P (fK env x))->EnvOk O M V env s.heap->FrameOk env s.heap->Rds O M s.heap 0 vs ds →
  (∀s',Chg P s s'->(∀b c us n,s.heap.get? b=some { cls:=c,data:=.seq us n }->s'.heap.get? b=some { cls:=c,data:=.seq us n })->EnvOk O M V' env s'.heap->FrameOk env s'.heap->Q () s') →
  wpAny g.M A (assignInOrder ((assignEach es env).map (·.2)) vs) Q E s
 | [],xs,vs,ds,V,V',s,Q,h1,h2,h3,eo,fo,r,q=>by
  cases h1
  cases ds with
  | nil =>
   cases h2
   cases r
   exact wpAny_pure (q s Chg.refl (λzw zw zw zw e=>e) eo fo)
  | cons d ds=>cases h2
 | e::es,xs,vs,ds,V,V',s,Q,h1,h2,h3,eo,fo,r,q=>by
  rw [List.mapM_cons] at h1
  cases e with
  | Name x p =>
   have h1:((es.mapM aW).bind λys=>some (x::ys))=some xs:=h1
   cases hm:es.mapM aW with
   | none=>rw [hm] at h1; cases h1
   | some ys =>
    rw [hm] at h1
    cases h1
    cases ds with
    | nil=>cases h2
    | cons d ds =>
     cases r with | cons a b =>
     obtain⟨hs,hp⟩:=h3 x List.mem_cons_self
     show wpAny g.M A (assignInOrder (assign (.Name x p) env::(assignEach es env).map (·.2)) _) Q E s
     rw [iZ]
     refine wpAny_bind (wpAny_holding (wpAny_assign_Name (iD eo fo hs a (λz=>absurd rfl z) λh' tk st eo' fo'=>?_)))
     refine lW es ys _ ds _ V' _ Q hm h2 (λy hy=>h3 y (List.mem_cons_of_mem _ hy)) eo' fo' (b.seqs st.seqs) λs' ch sq eo'' fo''=>?_
     refine q s' (Chg.trans ⟨⟨h',tk,rfl⟩,λb o hb e=>st.same.extBut b o (λz=>hb (z ▸ hp)) e⟩ ch) (λb c us n e=>sq b c us n (st.seqs b c us n e)) eo'' fo''
  | _=>exact no h1
theorem oQ:∀(es:List Expr) (xs:List Str),es.mapM aW=some xs->(assignEach es env).length=xs.length/\(assignEach es env).findIdx? (·.1)=none
 | [],xs,h=>by cases h; exact⟨rfl,rfl⟩
 | e::es,xs,h=>by
  rw [List.mapM_cons] at h
  cases e with
  | Name x p =>
   have h:((es.mapM aW).bind λys=>some (x::ys))=some xs:=h
   cases hm:es.mapM aW with
   | none=>rw [hm] at h; cases h
   | some ys =>
    rw [hm] at h
    cases h
    obtain⟨h1,h2⟩:=oQ es ys hm
    refine⟨by show(assignEach es env).length+1=ys.length+1; rw [h1],?_⟩
    show((false,assign (.Name x p) env)::assignEach es env).findIdx? (·.1)=none
    rw [List.findIdx?_cons]
    simp [h2]
  | _=>exact no h
theorem fC:∀(xs:List Str) (ds:List D) (V V':Rho),cR V xs ds=some V'->xs.length=ds.length
 | [],[],_,_,_=>rfl
 | [],_::_,_,_,h=>by cases h
 | _::_,[],_,_,h=>by cases h
 | x::xs,d::ds,V,V',h=>by rw [List.length_cons,List.length_cons,fC xs ds _ _ h]
theorem oJ {P:Avoid}{Q:Unit->Shared->Prop}{xs:List Str}(hh:A.handled=none)(hb:jG V target d=some V')(hn:aR target=some xs)(h3:∀x∈xs,d7 env x/\P (fK env x))
  (eo:EnvOk O M V env s.heap) (fo:FrameOk env s.heap) (r:Rd O M s.heap 0 v d)
  (q:∀s',Chg P s s'->(∀b c us n,s.heap.get? b=some { cls:=c,data:=.seq us n }->s'.heap.get? b=some { cls:=c,data:=.seq us n })->EnvOk O M V' env s'.heap->FrameOk env s'.heap->Q () s'):wpAny g.M A (assign target env v) Q E s:=by
 cases target with
 | Name x p =>
  cases hb
  cases hn
  obtain⟨hs,hp⟩:=h3 x List.mem_cons_self
  exact wpAny_assign_Name (iD eo fo hs r (λz=>absurd rfl z) λh' tk st eo' fo'=>q _ ⟨⟨h',tk,rfl⟩,λb o hb e=>st.same.extBut b o (λz=>hb (z ▸ hp)) e⟩ st.seqs eo' fo')
 | Tuple es k p =>
  cases d with
  | tuple ds =>
   obtain⟨a,vs,m,rfl,g3,g4,g5,g1,g2⟩:=kG r
   have hn:es.mapM aW=some xs:=hn
   have hb:((es.mapM aW).bind λxs=>cR V xs ds)=some V':=hb
   rw [hn] at hb
   have hb:cR V xs ds=some V':=hb
   obtain⟨l1,l2⟩:=oQ (env:=env) es xs hn
   have l3:=fC _ _ _ _ hb
   have l4:=g5.length
   rw [Array.length_toList] at l4
   refine wpAny_assign_Tuple hh ⟨_,g4,rfl,_,rfl⟩ (by rw [l1,l3,l4]) l2 λh' he=>?_
   have kk:∀b o,s.heap.get? b=some o->h'.get? b=some o:=λb o e=>he b o (Nat.ne_of_lt (Heap.lt_size e)) e
   refine lW (P:=P) es xs _ ds V V' _ Q hn hb h3 (eo.keeps kk) (fo.keeps kk) (g5.keeps kk) λs' ch sq eo' fo'=>?_
   exact q s' (Chg.trans (Chg.of_keeps (d4 (tk:=s.toks) kk)) ch) (λb c us n e=>sq b c us n (kk _ _ e)) eo' fo'
  | _=>exact no hb
 | _=>exact no hn
end
set_option backward.match.sparseCases true
noncomputable abbrev testsOf (ifs:List Expr) (env:Env):Sem Bool:=forIn ifs true λc r=>if r=true then do let ok <- isTrue c env (eval c env); pure (ForInStep.yield ok) else pure (ForInStep.yield r)
noncomputable def IfsS (g:Glob) (n:Nat) (V:Rho) (ifs:List Expr) (b:Bool):Prop :=
 ∀(O M:Avoid) (env:Env) (A:Around) (s:Shared) (E:Value->Shared->Prop),g.Up s->Room n A->Alloc O s->Alloc M s->EnvOk O M V env s.heap →
  wpAny g.M A (testsOf ifs env) (λc s'=>Keeps s s'/\c=b) E s
section
theorem y6:IfsS g n V [] true:=λO M env A s E u rm aO aM eo=>wpAny_tests_nil ⟨aD s,rfl⟩
theorem y5 {c:Expr}{b:Bool}(x:TestS g n V c b):IfsS g n V [c] b:=λO M env A s E u rm aO aM eo=>wpAny_tests_one (x O M env A s E u rm aO aM eo)
end
noncomputable def AccAt (h:Heap) (Z:Addr) (ys:Array Value):Prop:=∃n,IsL h Z ys n
theorem AccAt.chg {P:Avoid}{Z:Addr}{ys:Array Value}(a:AccAt s.heap Z ys)(c:Chg P s s')(h:¬P Z):AccAt s'.heap Z ys:=(a).elim λn e=>⟨n,c.2 _ _ h e⟩
theorem Rd.off (hk:∀b o,¬O b->h.get? b=some o->h'.get? b=some o)(x:Rd O M h k v d):Rd O M h' k v d :=
 x.gen Eq (λe=>e ▸ rfl) (λe a b c=>⟨a,λz=>b (e.trans z),hk _ _ a c⟩) rfl
theorem Rds.off (hk:∀b o,¬O b->h.get? b=some o->h'.get? b=some o){v:List Value}{d:List D}(x:Rds O M h k v d):Rds O M h' k v d :=
 x.gen Eq (λe=>e ▸ rfl) (λe a b c=>⟨a,λz=>b (e.trans z),hk _ _ a c⟩) rfl
theorem xY {W:Avoid}{t t':Shared}{m:Str->Option Value}(x:t.heap.Ns a m)(ch:Chg W t t')(kd:∀b,W b->∃o,t.heap.get? b=some o/\isFS o=true):t'.heap.Ns a m:=by
 obtain⟨o,es,ep,ho,hd,r⟩:=x
 refine⟨o,es,ep,ch.2 _ _ (λz=>?_) ho,hd,r⟩
 obtain⟨o',ho',hf⟩:=kd _ z
 rw [ho] at ho'; cases ho'
 unfold isFS at hf; rw [hd] at hf; cases hf
theorem oF {W:Avoid}{t t':Shared}{v:Option Value}(x:t.heap.IsCell a v)(ch:Chg W t t')(kd:∀b,W b->∃o,t.heap.get? b=some o/\isFS o=true):t'.heap.IsCell a v:=by
 obtain⟨o,ho,hd⟩:=x
 refine⟨o,ch.2 _ _ (λz=>?_) ho,hd⟩
 obtain⟨o',ho',hf⟩:=kd _ z
 rw [ho] at ho'; cases ho'
 unfold isFS at hf; rw [hd] at hf; cases hf
theorem EnvOk.chgW {W:Avoid}{t t':Shared}(eo:EnvOk O M V env t.heap)(ch:Chg W t t')(hWO:∀b,W b->O b)(kd:∀b,W b->∃o,t.heap.get? b=some o/\isFS o=true):EnvOk O M V env t'.heap:=by
 refine⟨eo.kind,eo.gl,eo.bl,eo.sc,eo.apart,λy d k hy=>?_⟩
 obtain⟨v,hv,hr,ow⟩:=eo.vars y d k hy
 refine⟨v,?_,hr.off λb o hb e=>ch.2 b o (λz=>hb (hWO b z)) e,ow⟩
 rcases hv with ⟨a,m,b,c⟩ | ⟨a,c,b,d⟩
 ·exact .inl ⟨a,m,xY b ch kd,c⟩
 ·exact .inr ⟨a,c,b,oF d ch kd⟩
theorem FrameOk.chgW {W:Avoid}{t t':Shared}(fo:FrameOk env t.heap)(ch:Chg W t t')(kd:∀b,W b->∃o,t.heap.get? b=some o/\isFS o=true):FrameOk env t'.heap:=by
 refine⟨?_,λx hx=>?_⟩
 ·obtain⟨m,h⟩:=fo.ns; exact⟨m,xY h ch kd⟩
 ·obtain⟨c,v,a,b⟩:=fo.cell x hx; exact⟨c,v,a,oF b ch kd⟩
noncomputable def BodyS (g:Glob) (A:Around) (O M P:Avoid) (env:Env) (Z:Addr) (body:Sem Unit) (V:Rho) (ds:List D):Prop :=
 ∀(t:Shared) (ys:Array Value) (E:Value->Shared->Prop) (Q:Unit->Shared->Prop),g.Up t->Alloc O t->Alloc M t->EnvOk O M V env t.heap->FrameOk env t.heap->AccAt t.heap Z ys->ys.size+ds.length<=cap →
  (∀t' (vs:List Value),Chg P t t'->AccAt t'.heap Z (ys++vs.toArray)->Rds O M t'.heap 0 vs ds->EnvOk O M V env t'.heap->FrameOk env t'.heap->g.Up t'->Alloc O t'->Alloc M t'->Q () t')->wpAny g.M A body Q E t
theorem gN:∀(xs:List Str) (ds:List D) (V V':Rho),cR V xs ds=some V'->V'.sc=V.sc/\∀y,y∉xs->V'.vars.lookup y=V.vars.lookup y
 | [],[],_,_,h=>by cases h; exact⟨rfl,λzw zw=>rfl⟩
 | [],_::_,_,_,h=>by cases h
 | _::_,[],_,_,h=>by cases h
 | x::xs,d::ds,V,V',h=>by
  obtain⟨h1,h2⟩:=gN xs ds _ _ h
  refine⟨h1,λy hy=>?_⟩
  rw [h2 y λz=>hy (List.mem_cons_of_mem _ z)]
  unfold Rho.set
  rw [List.lookup_cons]
  cases hb:y==x with
  | true=>exact absurd (by rw [beq_iff_eq.mp hb]; exact List.mem_cons_self) hy
  | false=>rfl
theorem jF {xs:List Str}(h:jG V target d=some V')(hn:aR target=some xs):V'.sc=V.sc/\∀y,y∉xs->V'.vars.lookup y=V.vars.lookup y:=by
 cases target with
 | Name x p =>
  cases h; cases hn
  refine⟨rfl,λy hy=>?_⟩
  unfold Rho.set
  rw [List.lookup_cons]
  cases hb:y==x with
  | true=>exact absurd (by rw [beq_iff_eq.mp hb]; exact List.mem_cons_self) hy
  | false=>rfl
 | Tuple es k p =>
  cases d with
  | tuple ds =>
   have hn:es.mapM aW=some xs:=hn
   have h:((es.mapM aW).bind λxs=>cR V xs ds)=some V':=h
   rw [hn] at h
   exact gN _ _ _ _ h
  | _=>first | exact no h | exact nb h | cases h
 | _=>first | exact no hn | exact nb hn | cases hn
theorem EnvOk.unbind {xs:List Str}(e:EnvOk O M V' env h)(hb:jG V target d=some V')(hn:aR target=some xs)(hf:∀x∈xs,V.vars.lookup x=none):EnvOk O M V env h:=by
 obtain⟨h1,h2⟩:=jF hb hn
 refine⟨e.kind,e.gl,e.bl,e.sc.trans h1,e.apart,λy d k hy=>e.vars y d k ?_⟩
 rw [h2 y λz=>by rw [hf y z] at hy; cases hy]
 exact hy
theorem Chg.alloc {P:Avoid}(a:Chg P s s')(x:Alloc O s)(h:∀b,O b->P b->∃o,s'.heap.get? b=some o):Alloc O s':=λb hb=>by
 by_cases hp:P b
 ·exact h b hb hp
 ·obtain⟨o,e⟩:=x b hb
  exact⟨o,a.2 b o hp e⟩
noncomputable def iG (e:Expr) (j:Nat) (it acc:Value) (env:Env) (p:Pos) (target:Expr) (ifs:List Expr) (body:Sem Unit):Sem Fin:=do
 standAt p
 match <- pyNext it with
 | none=>pure (.done .next)
 | some v =>
  letOwnedTupleGo target it v
  assign target env v
  let mut ok:=true
  for c in ifs do
   if ok then ok <- isTrue c env (eval c env)
  if ok then
   body
  again (.compLoop e j it acc env)
structure ItemS (g:Glob) (n:Nat) (A:Around) (O M P:Avoid) (env:Env) (Z:Addr) (body:Sem Unit) (target:Expr) (ifs:List Expr) (V:Rho) (d:D) (out:List D) (V':Rho) (b:Bool):Prop where
 bind:jG V target d=some V'
 ifs:IfsS g n V' ifs b
 body:b=true->BodyS g A O M P env Z body V' out
 skip:b=false->out=[]
theorem iJ {α:Type}{outs:List (List α)}{i:Nat}{out:List α}(h:outs[i]?=some out):(outs.take (i+1)).flatten=(outs.take i).flatten++out:=by
 rw [List.take_add_one,h]; simp
noncomputable def BodyJ (g:Glob) (A:Around) (O M P:Avoid) (env:Env) (Z:Addr) (ys:Array Value) (body:Sem Unit) (V:Rho) (J J':List Value->Heap->Prop):Prop :=
 ∀(t:Shared) (vs:List Value) (E:Value->Shared->Prop) (Q:Unit->Shared->Prop),g.Up t->Alloc O t->Alloc M t->EnvOk O M V env t.heap->FrameOk env t.heap->AccAt t.heap Z (ys++vs.toArray)->J vs t.heap →
  (∀t' (ws:List Value),Chg P t t'->AccAt t'.heap Z (ys++vs.toArray++ws.toArray)->J' (vs++ws) t'.heap->EnvOk O M V env t'.heap->FrameOk env t'.heap->g.Up t'->Alloc O t'->Alloc M t'->Q () t')->wpAny g.M A body Q E t
structure ItemJ (g:Glob) (n:Nat) (A:Around) (O M P:Avoid) (env:Env) (Z:Addr) (ys:Array Value) (body:Sem Unit) (target:Expr) (ifs:List Expr) (V:Rho) (d:D) (V':Rho) (b:Bool) (J J':List Value->Heap->Prop):Prop where
 bind:jG V target d=some V'
 ifs:IfsS g n V' ifs b
 body:b=true->BodyJ g A O M P env Z ys body V' J J'
 skip:b=false->∀vs h,J vs h->J' vs h
theorem mL {O0 M0 W P:Avoid}{gens:List Comprehension}{scope:Scope}{j:Nat}{it:Value}{Z:Addr}{ifs:List Expr}{body:Sem Unit}{tt:Bool}{items:List D}{s_1:Shared}{St:Nat->Heap->Prop}{xs:List Str}{ys0:Array Value}{t0:Shared}(J:Nat->List Value->Heap->Prop)
  (hform:compTurn (.ListComp elt gens scope cp) j it (.ref Z) env=iG (.ListComp elt gens scope cp) j it (.ref Z) env p target ifs body)
  (rm:Room n A) (I:Itr g A tt it items O0 M0 W s s_1 St) (wdO:Wid O0 W O s_1) (wd:Wid M0 W M s_1) (hWO:∀b,W b->O b) (htt:Tgt tt target) (hn:aR target=some xs) (hst:∀x∈xs,d7 env x/\P (fK env x)) (hfresh:∀x∈xs,V.vars.lookup x=none)
  (hPf:∀b,P b->O0 b\/s_1.heap.get? b=none) (hPW:∀b,P b->¬W b) (hPg:∀b o,g.h.get? b=some o->¬P b/\¬W b) (hPZ:P Z) (hPlive:∀(t:Shared) ys,FrameOk env t.heap->AccAt t.heap Z ys->∀b,P b->∃o,t.heap.get? b=some o)
  (hJ:∀i vs h h',(∀b c us n,¬W b->h.get? b=some { cls:=c,data:=.seq us n }->h'.get? b=some { cls:=c,data:=.seq us n })->J i vs h->J i vs h') (hJ0:J 0 [] t0.heap)
  (hit:∀(i:Nat) (d:D),items[i]?=some d->∃V' b,ItemJ g n A O M P env Z ys0 body target ifs V d V' b (J i) (J (i+1)))
  (h0:Chg P s t0) (hs0:St 0 t0.heap) (hacc:AccAt t0.heap Z ys0) (eo:EnvOk O M V env t0.heap) (fo:FrameOk env t0.heap) (u:g.Up t0) (aO:Alloc O t0) (aM:Alloc M t0)
  (hR:∀t' (vs:List Value),Chg P s t'->AccAt t'.heap Z (ys0++vs.toArray)->J items.length vs t'.heap->EnvOk O M V env t'.heap->FrameOk env t'.heap->g.Up t'->(∀b,(O b\/M b)->¬W b->∃o,t'.heap.get? b=some o)->R (.ok .next) t') :
  codeAny g.M A (.compLoop (.ListComp elt gens scope cp) j it (.ref Z) env) R t0:=by
 have hZW:¬W Z:=hPW Z hPZ
 refine codeAny_loop rfl (λk t=>∃i,∃vs:List Value,k=items.length+1 - i/\i<=items.length/\Chg P s t/\St i t.heap/\AccAt t.heap Z (ys0++vs.toArray)/\J i vs t.heap/\EnvOk O M V env t.heap/\FrameOk env t.heap/\g.Up t/\Alloc O t/\Alloc M t) ?_ (items.length+1)
  ⟨0,[],rfl,Nat.zero_le _,h0,hs0,by simpa using hacc,hJ0,eo,fo,u,aO,aM⟩
 intro k t hJJ
 show wpAny g.M A ((compTurn (.ListComp elt gens scope cp) j it (.ref Z) env).onRaise (λx=>do noteFrame x env; theTreesLotGoes x)) _ _ t
 refine wpAny_noted ?_
 ((show let Q0:=_; let E0:=_; wpAny _ _ _ Q0 E0 _); intro Q0 E0)
 obtain⟨i,vs,rfl,hi,ch,st,acc,rds,eo,fo,u,aO,aM⟩:=hJJ
 rw [hform]
 unfold iG
 refine wpAny_bind (wpAny_standAt (wpAny_bind ?_))
 ((show let Q0:=_; let E0:=_; wpAny _ _ _ Q0 E0 _); intro Q0 E0)
 have kd:=I.kinds i _ st
 by_cases hlt:i < items.length
 ·have hd:items[i]?=some items[i]:=List.getElem?_eq_getElem hlt
  obtain⟨V',b,IS⟩:=hit i _ hd
  refine' wpAny_mono (I.item O M i _ t target _ _ wdO wd htt hd st aO aM _) (λr t1 h=>Exists.elim h λv h=>h.1 ▸ wpAny_bind h.2) λzw zw z=>z
  intro v t2 chW rv st2
  ((show let Q0:=_; let E0:=_; wpAny _ _ _ Q0 E0 _); intro Q0 E0)
  refine wp_q λQs hQs=>?_
  ((show let Q0:=_; let E0:=_; wpAny _ _ _ Q0 E0 _); intro Q0 E0)
  have eo2:=eo.chgW chW hWO kd
  have fo2:=fo.chgW chW kd
  have kd2:=I.kinds _ _ st2
  have lv:∀b,W b->∃o,t2.heap.get? b=some o:=λb hb=>(kd2 b hb).elim λo zq=>zq.elim λe zw=>⟨o,e⟩
  have u2:g.Up t2:=chW.up u λb o e=>(hPg b o e).2
  have aO2:Alloc O t2:=chW.alloc aO λb zw hb=>lv b hb
  have aM2:Alloc M t2:=chW.alloc aM λb zw hb=>lv b hb
  have acc2:=acc.chg chW hZW
  have rds2:J i vs t2.heap:=hJ _ _ _ _ (λb c us n hb e=>chW.2 b _ hb e) rds
  have ch2:Chg P s t2:=by
   refine⟨?_,λb o hb e=>chW.2 b o (λz=>?_) (ch.2 b o hb e)⟩
   ·obtain⟨h,tk,e⟩:=ch.1
    obtain⟨h',tk',e'⟩:=chW.1
    exact⟨h',tk',by rw [e',e]⟩
   ·rw [(I.wnew b z).1] at e; cases e
  refine wpAny_bind (oJ (P:=P) rm.handled IS.bind hn hst eo2 fo2 rv λt3 ch3 sq3 eo3 fo3=>?_)
  have stP:∀{t t':Shared} {q:Nat},Chg P t t'->St q t.heap->St q t'.heap:=λc x=>I.frame _ _ _ x λb o ho hb ⟨o',e'⟩ e=>c.2 b o (λz=>by
   rcases hPf b z with z | z
   ·exact ho z
   ·rw [e'] at z; cases z) e
  have acc3:AccAt t3.heap Z (ys0++vs.toArray):=(acc2).elim λm e=>⟨m,sq3 _ _ _ _ e⟩
  have live3:=hPlive t3 _ fo3 acc3
  have u3:g.Up t3:=ch3.up u2 λb o e=>(hPg b o e).1
  have aO3:Alloc O t3:=ch3.alloc aO2 λb zw hp=>live3 b hp
  have aM3:Alloc M t3:=ch3.alloc aM2 λb zw hp=>live3 b hp
  refine wpAny_bind (wpAny_mono (IS.ifs O M env A t3 _ u3 rm aO3 aM3 eo3) (λok t4 hJ0=>?_) λzw zw z=>z)
  obtain⟨k4,hok⟩:=hJ0
  subst hok
  have c4:Chg P t3 t4:=Chg.of_keeps k4
  have eo4:=eo3.keeps (aA k4)
  have fo4:=fo3.keeps (aA k4)
  have acc4:AccAt t4.heap Z (ys0++vs.toArray):=(acc3).elim λm e=>⟨m,aA k4 _ _ e⟩
  have rds4:J i vs t4.heap:=hJ _ _ _ _ (λb c us n zw e=>aA k4 _ _ (sq3 b c us n e)) rds2
  have st4:St (i+1) t4.heap:=stP c4 (stP ch3 st2)
  have hb3:Chg P s t4:=(ch2.trans ch3).trans c4
  cases hb:ok with
  | false =>
   simp only [Bool.false_eq_true,if_false]
   exact wpAny_pure (hQs _ _ ⟨rfl,items.length+1 - (i+1),by grind,i+1,vs,rfl,by assumption,hb3,st4,acc4,IS.skip hb _ _ rds4,eo4.unbind IS.bind hn hfresh,fo4,u3.keeps k4,aO3.keeps k4,aM3.keeps k4⟩)
  | true =>
   simp only [if_true]
   refine wpAny_bind (IS.body hb t4 vs _ _ (u3.keeps k4) (aO3.keeps k4) (aM3.keeps k4) eo4 fo4 acc4 rds4 λt5 ws ch5 acc5 rw5 eo5 fo5 u5 aO5 aM5=>?_)
   refine wpAny_pure (hQs _ _ ⟨rfl,items.length+1 - (i+1),by grind,i+1,vs++ws,rfl,by assumption,hb3.trans ch5,stP ch5 st4,?_,rw5,eo5.unbind IS.bind hn hfresh,fo5,u5,aO5,aM5⟩)
   have e:ys0++(vs++ws).toArray=ys0++vs.toArray++ws.toArray:=by simp
   rw [e]; exact acc5
 ·have hie:i=items.length:=by grind
  subst hie
  refine I.done t _ _ st λt1 chW=>?_
  refine wpAny_pure (hR t1 vs ?_ (acc.chg chW hZW) (hJ _ _ _ _ (λb c us n hb e=>chW.2 b _ hb e) rds) (eo.chgW chW hWO kd) (fo.chgW chW kd) (chW.up u λb o e=>(hPg b o e).2) λb hb hw=>?_)
  ·refine⟨?_,λb o hb e=>chW.2 b o (λz=>?_) (ch.2 b o hb e)⟩
   ·obtain⟨h,tk,e⟩:=ch.1
    obtain⟨h',tk',e'⟩:=chW.1
    exact⟨h',tk',by rw [e',e]⟩
   ·rw [(I.wnew b z).1] at e; cases e
  ·rcases hb with hb | hb
   ·obtain⟨o,e⟩:=aO b hb; exact⟨o,chW.2 b o hw e⟩
   ·obtain⟨o,e⟩:=aM b hb; exact⟨o,chW.2 b o hw e⟩
theorem ItemS.toJ {P:Avoid}{Z:Addr}{ys:Array Value}{body:Sem Unit}{ifs:List Expr}{out:List D}{b:Bool}(I:ItemS g n A O M P env Z body target ifs V d out V' b)(hPO:∀b,P b->O b)(hcap:ys.size+(ds++out).length<=cap) :
  ItemJ g n A O M P env Z ys body target ifs V d V' b (λvs h=>Rds O M h 0 vs ds) (λvs h=>Rds O M h 0 vs (ds++out)) :=
 ⟨I.bind,I.ifs,λhb t vs E Q u aO aM eo fo acc rds q=>I.body hb t _ E Q u aO aM eo fo acc (by
  have e:(ys++vs.toArray).size=ys.size+vs.length:=by simp
  rw [List.length_append] at hcap
  rw [e,rds.length]; omega) λt' ws ch acc' rw' eo' fo' u' aO' aM'=>q t' ws ch acc' ((rds.off λb o hb e=>ch.2 b o (λz=>hb (hPO b z)) e).append rw') eo' fo' u' aO' aM',λhb vs h r=>by rw [I.skip hb,List.append_nil]; exact r⟩
theorem zS {O0 M0 W P:Avoid}{gens:List Comprehension}{scope:Scope}{j:Nat}{it:Value}{Z:Addr}{ifs:List Expr}{body:Sem Unit}{tt:Bool}{items:List D}{outs:List (List D)}{s_1:Shared}{St:Nat->Heap->Prop}{xs:List Str}{ys0:Array Value}{t0:Shared}
  (hform:compTurn (.ListComp elt gens scope cp) j it (.ref Z) env=iG (.ListComp elt gens scope cp) j it (.ref Z) env p target ifs body)
  (rm:Room n A) (I:Itr g A tt it items O0 M0 W s s_1 St) (wdO:Wid O0 W O s_1) (wd:Wid M0 W M s_1) (hWO:∀b,W b->O b) (htt:Tgt tt target) (hn:aR target=some xs) (hst:∀x∈xs,d7 env x/\P (fK env x)) (hfresh:∀x∈xs,V.vars.lookup x=none)
  (hPO:∀b,P b->O b) (hPf:∀b,P b->O0 b\/s_1.heap.get? b=none) (hPW:∀b,P b->¬W b) (hPg:∀b o,g.h.get? b=some o->¬P b/\¬W b) (hPZ:P Z) (hPlive:∀(t:Shared) ys,FrameOk env t.heap->AccAt t.heap Z ys->∀b,P b->∃o,t.heap.get? b=some o)
  (hlen:outs.length=items.length) (hit:∀(i:Nat) (d:D) (out:List D),items[i]?=some d->outs[i]?=some out->∃V' b,ItemS g n A O M P env Z body target ifs V d out V' b) (hcap:ys0.size+outs.flatten.length<=cap)
  (h0:Chg P s t0) (hs0:St 0 t0.heap) (hacc:AccAt t0.heap Z ys0) (eo:EnvOk O M V env t0.heap) (fo:FrameOk env t0.heap) (u:g.Up t0) (aO:Alloc O t0) (aM:Alloc M t0)
  (hR:∀t' (vs:List Value),Chg P s t'->AccAt t'.heap Z (ys0++vs.toArray)->Rds O M t'.heap 0 vs outs.flatten->EnvOk O M V env t'.heap->FrameOk env t'.heap->g.Up t'->(∀b,(O b\/M b)->¬W b->∃o,t'.heap.get? b=some o)->R (.ok .next) t') :
  codeAny g.M A (.compLoop (.ListComp elt gens scope cp) j it (.ref Z) env) R t0:=by
 refine mL (λi vs h=>Rds O M h 0 vs (outs.take i).flatten) hform rm I wdO wd hWO htt hn hst hfresh hPf hPW hPg hPZ hPlive (λi vs h h' k r=>r.gen Eq (λe=>e ▸ rfl) (λe a b c=>⟨a,λz=>b (e.trans z),k _ _ _ _ (λz=>a (hWO _ z)) c⟩) rfl) (by simpa using Rds.nil) (λi d hd=>?_) h0 hs0 hacc eo fo u aO aM λt' vs a b c=>hR t' vs a b (by
  have:outs.take items.length=outs:=by rw [<- hlen]; exact List.take_length
  rw [this] at c; exact c)
 have hlt:i < outs.length:=by rw [hlen]; exact(List.getElem?_eq_some_iff.mp hd).1
 have ho:outs[i]?=some outs[i]:=List.getElem?_eq_getElem hlt
 obtain⟨V',b,IS⟩:=hit i _ _ hd ho
 have hsz:(outs.take (i+1)).flatten.length<=outs.flatten.length:=by
  conv=>rhs; rw [<- List.take_append_drop (i+1) outs,List.flatten_append,List.length_append]
  (exact Nat.le_add_right _ _)
 rw [iJ ho] at hsz
 have J:=IS.toJ (ys:=ys0) (ds:=(outs.take i).flatten) hPO (Nat.le_trans (Nat.add_le_add_left hsz _) hcap)
 rw [<- iJ ho] at J
 exact⟨V',b,J⟩
section
theorem jE:∀(names:List (Str×NameKind)) (h:Heap) (acc:List (Str×Addr)) (x:Str),
  (∃c,(cellsFrom h.objs.size names acc).lookup x=some c/\h.objs.size<=c/\(pushCells h names).IsCell c none/\(x,NameKind.cell)∈names)\/((x,NameKind.cell)∉names/\(cellsFrom h.objs.size names acc).lookup x=acc.lookup x)
 | [],h,acc,x=>.inr ⟨λz=>(nomatch z),rfl⟩
 | (nm,kind)::r,h,acc,x=>by
  unfold pushCells cellsFrom
  split
  ·rename_i hk
   have hk:kind=.cell:=by simpa using hk
   subst hk
   have ih:=jE r (h.push { cls:=.type "cell",data:=.cell none }) ((nm,h.objs.size)::acc) x
   rw [Heap.size_push] at ih
   rcases ih with ⟨c,h1,h2,h3,h4⟩ | ⟨h1,h2⟩
   ·exact .inl ⟨c,h1,by omega,h3,List.mem_cons_of_mem _ h4⟩
   ·rw [List.lookup_cons] at h2
    cases hb:x==nm with
    | true =>
     rw [hb] at h2
     have:=beq_iff_eq.mp hb
     subst this
     exact .inl ⟨_,h2,Nat.le_refl _,⟨_,pushCells_keeps _ _ _ _ (Heap.get?_push_size _ rfl),rfl⟩,List.mem_cons_self⟩
    | false =>
     rw [hb] at h2
     exact .inr ⟨λz=>by
      rcases List.mem_cons.mp z with z | z
      ·cases z; simp at hb
      ·exact h1 z,h2⟩
  ·rename_i hk
   rcases jE r h acc x with ⟨c,h1,h2,h3,h4⟩ | ⟨h1,h2⟩
   ·exact .inl ⟨c,h1,h2,h3,List.mem_cons_of_mem _ h4⟩
   ·exact .inr ⟨λz=>by
     rcases List.mem_cons.mp z with z | z
     ·cases z; exact hk rfl
     ·exact h1 z,h2⟩
theorem hU:∀(names:List (Str×NameKind)) (n:Nat) (acc:List (Str×Addr)),(∀x y c,acc.lookup x=some c->acc.lookup y=some c->x=y)->(∀x c,acc.lookup x=some c->@LT.lt Nat _ c n) →
  ∀x y c,(cellsFrom n names acc).lookup x=some c->(cellsFrom n names acc).lookup y=some c->x=y
 | [],n,acc,h1,h2=>h1
 | (nm,kind)::r,n,acc,h1,h2=>by
  unfold cellsFrom
  split
  ·refine hU r (n+1) ((nm,n)::acc) (λx y c hx hy=>?_) λx c hx=>?_
   ·rw [List.lookup_cons] at hx hy
    cases hb:x==nm <;> cases hb':y==nm <;> rw [hb] at hx <;> rw [hb'] at hy
    ·exact h1 x y c hx hy
    ·cases hy; exact absurd (h2 _ _ hx) (Nat.lt_irrefl _)
    ·cases hx; exact absurd (h2 _ _ hy) (Nat.lt_irrefl _)
    ·rw [beq_iff_eq.mp hb,beq_iff_eq.mp hb']
   ·rw [List.lookup_cons] at hx
    cases hb:x==nm <;> rw [hb] at hx
    ·exact Nat.lt_succ_of_lt (h2 _ _ hx)
    ·cases hx; exact Nat.lt_succ_self _
  ·exact hU r n acc h1 h2
structure Lay (names:List (Str×NameKind)) (cl:List (Str×Addr)) (h h_1:Heap) (cs:List (Str×Addr)):Prop where
 keep:∀b o,h.get? b=some o->h_1.get? b=some o
 ns:h_1.Ns h.objs.size (λzw=>none)
 look:∀x,(∃c,cs.lookup x=some c/\@LT.lt Nat _ h.objs.size c/\h_1.IsCell c none/\(x,NameKind.cell)∈names)\/((x,NameKind.cell)∉names/\cs.lookup x=cl.lookup x)
 apart:(∀x y c,cl.lookup x=some c->cl.lookup y=some c->x=y)->(∀x c,cl.lookup x=some c->@LT.lt Nat _ c h.objs.size)->∀x y c,cs.lookup x=some c->cs.lookup y=some c->x=y
theorem Lay.mk' (names:List (Str×NameKind))(cl:List (Str×Addr))(h:Heap)(T:String):Lay names cl h (pushCells (h.push { cls:=.type T,data:=.dict #[] }) names) (cellsFrom (h.objs.size+1) names cl):=by
 have e:(h.push { cls:=.type T,data:=.dict #[] }).objs.size=h.objs.size+1:=Heap.size_push ..
 refine⟨λb o e=>pushCells_keeps _ _ _ _ (Heap.get?_push_of_some _ e),(Heap.Ns.new h (.type T)).keeps (pushCells_keeps _ _),λx=>?_,λh1 h2=>hU _ _ _ h1 λx c hx=>Nat.lt_succ_of_lt (h2 x c hx)⟩
 have:=jE names (h.push { cls:=.type T,data:=.dict #[] }) cl x
 rw [e] at this
 rcases this with ⟨c,h1,h2,h3,h4⟩ | h
 ·exact .inl ⟨c,h1,by omega,h3,h4⟩
 ·exact .inr h
section
variable {M:Model}
theorem j5 {scope:Scope}{globals:Addr}{cl:List (Str×Addr)}{binds:List (Str×Value)}{qual:Str}{func:Option Addr}{code:Value}{around:Option Env}{builtins:Addr}{Q:Env->Shared->Prop}
  (h:∀h1 cs,Lay scope.names cl s.heap h1 cs->wpAny M A (forIn binds PUnit.unit λx r=>do storeName (newEnv scope s.heap.objs.size globals cs qual func code around builtins) x.1 x.2; pure (ForInStep.yield ⟨⟩))
   (λzw s'=>Q (newEnv scope s.heap.objs.size globals cs qual func code around builtins) s') E { s with heap:=h1 }) :
  wpAny M A (newFunctionEnv scope globals cl binds qual func code around builtins) Q E s:=by
 cases around with
 | none =>
  simp only [newFunctionEnv,Option.isSome_none,Bool.false_eq_true,if_false]
  refine wpAny_bind (wpAny_alloc ?_)
  refine wpAny_bind (wpAny_layCells _ (λname kind cells=>by cases hkc:kind==NameKind.cell <;> simp [hkc]) _ _ _ _ ?_)
  refine wpAny_bind (wpAny_mono (h _ _ ?_) (λzw zw z=>wpAny_pure z) λzw zw z=>z)
  have:=Lay.mk' scope.names cl s.heap "frame"
  rw [show({ s with heap:=s.heap.push { cls:=.type "frame",data:=.dict #[] } }:Shared).heap.objs.size=s.heap.objs.size+1 from Heap.size_push ..]
  exact this
 | some o =>
  simp only [newFunctionEnv,Option.isSome_some,if_true]
  refine wpAny_bind (wpAny_alloc ?_)
  refine wpAny_bind (wpAny_layCells _ (λname kind cells=>by cases hkc:kind==NameKind.cell <;> simp [hkc]) _ _ _ _ ?_)
  refine wpAny_bind (wpAny_mono (h _ _ ?_) (λzw zw z=>wpAny_pure z) λzw zw z=>z)
  have:=Lay.mk' scope.names cl s.heap "dict"
  rw [show({ s with heap:=s.heap.push { cls:=.type "dict",data:=.dict #[] } }:Shared).heap.objs.size=s.heap.objs.size+1 from Heap.size_push ..]
  exact this
end
theorem jD {env:Env}(f:Str×NameKind->List (Str×Addr)->Sem (ForInStep (List (Str×Addr))))
  (hf:∀name kind cells,f (name,kind) cells=if kind==.free then (do let a <- cellOf env name; pure (.yield ((name,a)::cells))) else pure (.yield cells)) :
  ∀(names:List (Str×NameKind)) (acc:List (Str×Addr)),(∀x,(x,NameKind.free)∈names->(env.cells.lookup x).isSome=true)->(∀x c,acc.lookup x=some c->env.cells.lookup x=some c) →
  ∃cl,forIn names acc f=(pure cl:Sem _)/\(∀x c,cl.lookup x=some c->env.cells.lookup x=some c)/\(∀x,(x,NameKind.free)∈names\/(acc.lookup x).isSome=true↔(cl.lookup x).isSome=true)
 | [],acc,_,h2=>⟨acc,by rw [List.forIn_nil],h2,λx=>⟨λhx=>by
   rcases hx with hx | hx
   ·cases hx
   ·exact hx,λhx=>.inr hx⟩⟩
 | (nm,kind)::r,acc,h1,h2=>by
  rw [List.forIn_cons,hf]
  cases hk:kind==NameKind.free with
  | true =>
   have:kind=.free:=by simpa using hk
   subst this
   obtain⟨c,hc⟩:=Option.isSome_iff_exists.mp (h1 nm List.mem_cons_self)
   obtain⟨cl,e,h3,h4⟩:=jD f hf r ((nm,c)::acc) (λx hx=>h1 x (List.mem_cons_of_mem _ hx)) λx c' hx=>by
    rw [List.lookup_cons] at hx
    cases hb:x==nm with
    | true=>rw [hb] at hx; cases hx; rw [beq_iff_eq.mp hb]; exact hc
    | false=>rw [hb] at hx; exact h2 x c' hx
   refine⟨cl,?_,h3,λx=>(Iff.intro (λhx=>?_) (λhx=>?_)).trans (h4 x)⟩
   ·rw [if_pos rfl]
    have:cellOf env nm=pure c:=by unfold cellOf; rw [hc]
    rw [this]
    exact e
   ·rcases hx with hx | hx
    ·rcases List.mem_cons.mp hx with hx | hx
     ·cases hx; right; simp
     ·exact .inl hx
    ·right
     rw [List.lookup_cons]
     cases x==nm
     ·exact hx
     ·rfl
   ·rcases hx with hx | hx
    ·exact .inl (List.mem_cons_of_mem _ hx)
    ·rw [List.lookup_cons] at hx
     cases hb:x==nm with
     | true=>rw [beq_iff_eq.mp hb]; exact .inl List.mem_cons_self
     | false=>rw [hb] at hx; exact .inr hx
  | false =>
   obtain⟨cl,e,h3,h4⟩:=jD f hf r acc (λx hx=>h1 x (List.mem_cons_of_mem _ hx)) h2
   refine⟨cl,?_,h3,λx=>(Iff.intro (λhx=>?_) (λhx=>?_)).trans (h4 x)⟩
   ·rw [if_neg (by simp)]; exact e
   ·rcases hx with hx | hx
    ·rcases List.mem_cons.mp hx with hx | hx
     ·cases hx; simp at hk
     ·exact .inl hx
    ·exact .inr hx
   ·rcases hx with hx | hx
    ·exact .inl (List.mem_cons_of_mem _ hx)
    ·exact .inr hx
theorem oD {scope:Scope}(h:∀x,(x,NameKind.free)∈scope.names->(env.cells.lookup x).isSome=true) :
  ∃cl,closureFor scope env=pure cl/\(∀x c,cl.lookup x=some c->env.cells.lookup x=some c)/\(∀x,(x,NameKind.free)∈scope.names->cl.lookup x=env.cells.lookup x)/\(∀x c,cl.lookup x=some c->(x,NameKind.free)∈scope.names):=by
 obtain⟨cl,e,h1,h2⟩:=jD (env:=env) (λx cells=>if x.2==.free then (do let a <- cellOf env x.1; pure (.yield ((x.1,a)::cells))) else pure (.yield cells)) (λname kind cells=>rfl) scope.names [] h (λx c hx=>by simp at hx)
 refine⟨cl,?_,h1,λx hx=>?_,λx c hx=>?_⟩
 ·unfold closureFor
  show(forIn scope.names [] _ >>= λcs=>pure cs)=_
  have:forIn scope.names [] (λx cells=>if x.2==NameKind.free then (do let a <- cellOf env x.1; pure (ForInStep.yield ((x.1,a)::cells))) else pure (ForInStep.yield cells))=(pure cl:Sem _):=e
  exact(congrArg (λz=>z >>= λcs=>pure cs) this)
 ·obtain⟨c,hc⟩:=Option.isSome_iff_exists.mp ((h2 x).mp (.inl hx))
  rw [hc,h1 x c hc]
 ·rcases(h2 x).mpr (by rw [hx]; rfl) with h | h
  ·exact h
  ·simp at h
end
noncomputable def cF (sc names:List (Str×NameKind)):List (Str×NameKind):=names.map λp=>if (p.2==.free && sc.lookup p.1==some .cell) then (p.1,NameKind.cell) else p
noncomputable def Rho.inner (V:Rho) (names:List (Str×NameKind)):Rho:=⟨cF V.sc names,V.vars.filter λp=>names.lookup p.1==some .free⟩
noncomputable def bW (V:Rho) (names:List (Str×NameKind)):Bool:=names.all λp=>names.lookup p.1==some p.2 && (p.2 != .free || ((V.vars.lookup p.1).isSome && (V.sc.lookup p.1==some .cell || V.sc.lookup p.1==some .free) && p.1 != ("__classdict__":Str)))
theorem cN {β:Type}(f:Str->Bool)(x:Str):∀(l:List (Str×β)),(l.filter λp=>f p.1).lookup x=if f x then l.lookup x else none
 | []=>by simp
 | (y,b)::l=>by
  have ih:=cN f x l
  rw [List.filter_cons,List.lookup_cons]
  cases hb:x==y with
  | true =>
   have:=beq_iff_eq.mp hb
   subst this
   cases hf:f x with
   | true=>simp
   | false=>simp only [hf,Bool.false_eq_true,if_false] at ih ⊢; exact ih
  | false =>
   cases hf:f y with
   | true=>simp only [if_true,List.lookup_cons,hb]; exact ih
   | false=>simp only [Bool.false_eq_true,if_false]; exact ih
theorem dQ (sc:List (Str×NameKind))(x:Str):∀(l:List (Str×NameKind)),(cF sc l).lookup x=(l.lookup x).map λk=>if (k==.free && sc.lookup x==some .cell) then .cell else k
 | []=>rfl
 | (y,k)::l=>by
  have ih:=dQ sc x l
  have e:cF sc ((y,k)::l)=(y,if (k==.free && sc.lookup y==some .cell) then NameKind.cell else k)::cF sc l:=by
   unfold cF
   rw [List.map_cons]
   dsimp only
   split <;> rfl
  rw [e,List.lookup_cons,List.lookup_cons]
  cases hb:x==y with
  | true =>
   have:=beq_iff_eq.mp hb
   subst this
   rfl
  | false=>exact ih
theorem eJ {names:List (Str×NameKind)}(h:bW V names=true){k:NameKind}(hm:(x,k)∈names) :
  names.lookup x=some k/\(k=.free->(V.vars.lookup x).isSome=true/\(V.sc.lookup x=some .cell\/V.sc.lookup x=some .free)/\(x==("__classdict__":Str))=false):=by
 have:=List.all_eq_true.mp h _ hm
 simp only [Bool.and_eq_true,Bool.or_eq_true,beq_iff_eq,bne_iff_ne,ne_eq] at this
 refine⟨this.1,λhk=>?_⟩
 rcases this.2 with h' | ⟨⟨h1,h2⟩,h3⟩
 ·exact absurd hk h'
 ·exact⟨h1,h2,by simpa using h3⟩
theorem iV {names:List (Str×NameKind)}(eo:EnvOk O M V env h)(ok:bW V names=true)(hm:(x,NameKind.free)∈names) :
  ∃d k c v,V.vars.lookup x=some (d,k)/\env.cells.lookup x=some c/\h.IsCell c (some v)/\Rd O M h k v d/\(V.sc.lookup x=some .cell\/V.sc.lookup x=some .free)/\(x==("__classdict__":Str))=false/\(k≠0->OwnV M v):=by
 obtain⟨h1,h2⟩:=eJ ok hm
 obtain⟨h3,h4,h5⟩:=h2 rfl
 obtain⟨⟨d,k⟩,e⟩:=Option.isSome_iff_exists.mp h3
 obtain⟨v,hv,hr,ho⟩:=eo.vars x d k e
 rcases hv with ⟨a,m,b,c⟩ | ⟨a,c,b,c'⟩
 ·unfold Env.kindOf at a; rw [eo.sc] at a; rw [a] at h4; rcases h4 with h4 | h4 <;> cases h4
 ·exact⟨d,k,c,v,e,b,c',hr,h4,h5,ho⟩
theorem yX {O':Avoid}{names:List (Str×NameKind)}{env':Env}{h1 t:Heap}{cl cs:List (Str×Addr)}(eo:EnvOk O M V env h)(ok:bW V names=true)(lay:Lay names cl h h1 cs)
  (c1:∀x c,cl.lookup x=some c->env.cells.lookup x=some c) (c2:∀x,(x,NameKind.free)∈names->cl.lookup x=env.cells.lookup x) (c3:∀x c,cl.lookup x=some c->(x,NameKind.free)∈names)
  (e1:env'.scope.kind=.function) (e2:env'.globals=mainGlobals) (e3:env'.builtins=builtinsNs) (e4:env'.scope.names=cF V.sc names) (e5:env'.cells=cs) (e6:env'.locals=h.objs.size)
  (hk:∀b o,h1.get? b=some o->t.get? b=some o) (hO:∀b,O' b->O b\/h.get? b=none):EnvOk O' M (V.inner names) env' t/\FrameOk env' t:=by
 have clt:∀x c,cl.lookup x=some c->@LT.lt Nat _ c h.objs.size:=λx c hx=>by
  obtain⟨d,k,c',v,g1,g2,g3,g4⟩:=iV eo ok (c3 x c hx)
  rw [c1 x c hx] at g2; cases g2
  exact g3.lt
 have kn:∀x,env'.kindOf x=(names.lookup x).map λk=>if (k==.free && V.sc.lookup x==some .cell) then .cell else k:=λx=>by unfold Env.kindOf; rw [e4]; exact dQ _ _ _
 have frl:∀x,(x,NameKind.free)∈names->cs.lookup x=env.cells.lookup x:=λx hx=>by
  rcases lay.look x with ⟨c,g1,g2,g3,g4⟩ | ⟨g1,g2⟩
  ·have z1:=(eJ ok hx).1; have z2:=(eJ ok g4).1
   rw [z1] at z2; cases z2
  ·rw [g2,c2 x hx]
 refine⟨⟨e1,e2,e3,e4,?_,λx d k hx=>?_⟩,⟨⟨_,e6 ▸ lay.ns.keeps hk⟩,λx hx=>?_⟩⟩
 ·rw [e5]
  exact lay.apart (λx y c hx hy=>eo.apart x y c (c1 x c hx) (c1 y c hy)) clt
 ·have hx:(V.vars.filter λp=>names.lookup p.1==some .free).lookup x=some (d,k):=hx
  rw [cN (λy=>names.lookup y==some .free)] at hx
  split at hx
  ·rename_i hf
   have hf:names.lookup x=some .free:=by simpa using hf
   have hm:(x,NameKind.free)∈names:=mem_of_lookup hf
   obtain⟨d',k',c,v,g1,g2,g3,g4,g5,g6,g7⟩:=iV eo ok hm
   rw [hx] at g1; cases g1
   refine⟨v,.inr ⟨?_,c,by rw [e5,frl x hm]; exact g2,(g3.keeps lay.keep).keeps hk⟩,?_,g7⟩
   ·rw [kn x,hf]
    rcases g5 with g5 | g5
    ·left; simp [g5]
    ·right; exact⟨by simp [g5],g6⟩
   ·refine(g4.imp (O':=O') (M':=M) (λb hb h' z=>?_) (λzw zw zw a=>a) (Nat.le_refl _)).keeps λb o e=>hk _ _ (lay.keep _ _ e)
    rcases hO b z with z | z
    ·exact h' z
    ·rw [z] at hb; cases hb
  ·cases hx
 ·rw [kn x] at hx
  cases hn:names.lookup x with
  | none=>rw [hn] at hx; cases hx
  | some kd =>
   rw [hn] at hx
   have hm:=mem_of_lookup hn
   cases kd with
   | free =>
    obtain⟨d',k',c,v,g1,g2,g3,_⟩:=iV eo ok hm
    exact⟨c,some v,by rw [e5,frl x hm]; exact g2,(g3.keeps lay.keep).keeps hk⟩
   | cell =>
    rcases lay.look x with ⟨c,g1,g2,g3,g4⟩ | ⟨g1,g2⟩
    ·exact⟨c,none,by rw [e5]; exact g1,g3.keeps hk⟩
    ·exact absurd hm g1
   | _=>simp at hx
structure Place (g:Glob) (O P:Avoid) (env:Env) (Z:Addr) (names:List (Str×NameKind)):Prop where
 z:P Z
 o:∀b,P b->O b
 g:∀b o,g.h.get? b=some o->¬P b
 store:∀x,(names.lookup x=some .local\/names.lookup x=some .cell)->d7 env x/\P (fK env x)
 live:∀(t:Shared) ys,FrameOk env t.heap->AccAt t.heap Z ys->∀b,P b->∃o,t.heap.get? b=some o
noncomputable abbrev tE (elt:Expr) (Z:Addr) (env:Env):Sem Unit:=do let _ <- call (.builtin "list.append") [.ref Z,<- eval elt env]
theorem AC {P:Avoid}{Z:Addr}{e:D}{names:List (Str×NameKind)}(rm:Room n A)(pl:Place g O P env Z names)(x:EvS g n V elt e 0) :
  BodyS g A O M P env Z (tE elt Z env) V [e]:=by
 intro t ys E Q u aO aM eo fo acc hc q
 refine wpAny_bind (x.use u rm aO aM eo λv t1 k1 r1 u1 o1 m1 eo1=>wpAny_bind ?_)
 obtain⟨m,hZ⟩:=acc
 have hZ1:=aA k1 _ _ hZ
 refine append_at (prog:=g.prog) (w:=g.w) hZ1 (λh' hs he=>wpAny_pure ?_) (by have:=bI; simp at hc; grind)
 have ch:Chg (λb=>b=Z) t1 { t1 with heap:=h' }:=⟨⟨h',t1.toks,rfl⟩,λb o hb e=>hs.extBut b o hb e⟩
 have kd:∀b,b=Z->∃o,t1.heap.get? b=some o/\isFS o=true:=λb hb=>by subst hb; exact⟨_,hZ1,rfl⟩
 have lv:∀b,b=Z->∃o,({ t1 with heap:=h' }:Shared).heap.get? b=some o:=λb hb=>by subst hb; exact⟨_,he⟩
 refine q _ [v] (Chg.trans (Chg.of_keeps k1) (ch.mono λb hb=>hb ▸ pl.z)) ⟨m+1,by simpa using he⟩ (.cons (r1.off λb o hb e=>hs.extBut b o (λz=>hb (z ▸ pl.o _ pl.z)) e) .nil) (eo1.chgW ch (λb hb=>hb ▸ pl.o _ pl.z) kd) ((fo.keeps (aA k1)).chgW ch kd)
  (ch.up u1 λb o e z=>pl.g b o e (z ▸ pl.z)) (ch.alloc o1 λb zw hb=>lv b hb) (ch.alloc m1 λb zw hb=>lv b hb)
theorem jN {gens:List Comprehension}{scope:Scope}{j:Nat}{c:Comprehension}{it acc:Value}(hc:gens[j]?=some c)(ha:c.is_async=0)
  (h0:codeAny g.M A (.compLoop (.ListComp elt gens scope pos) j it acc env) R s)
  (h:∀E,wpAny g.M A (pyIter it) (λit' s'=>codeAny g.M A (.compLoop (.ListComp elt gens scope pos) j it' acc env) R s') E s) :
  codeAny g.M A (.compStart (.ListComp elt gens scope pos) j it acc env) R s:=by
 refine codeAny_of_tree ?_
 show wpAny _ _ ((compStart (.ListComp elt gens scope pos) j it acc env).onRaise (λx=>do noteFrame x env; standAt theWindowsPlace)) _ _ s
 refine wpAny_notedAt ?_
 have hcl:(clausesOf (.ListComp elt gens scope pos))[j]?=some c:=hc
 unfold compStart
 rw [hcl]
 simp only [Option.elim,ha]
 refine wpAny_ite ?_
 rw [if_neg (by decide)]
 refine wpAny_bind (wpAny_askSetting (wpAny_ite ?_))
 split
 ·first
   | exact wpAny_bind (wpAny_pure (wpAny_pure (And.intro rfl h0)))
   | exact wpAny_pure (And.intro rfl h0)
 ·exact wpAny_bind (wpAny_rule (wpAny_bind (wpAny_standAt (wpAny_bind (wpAny_mono (h _) (λit' s' h'=>wpAny_pure (And.intro rfl h')) λzw zw x=>x)))))
theorem EnvOk.impO {O':Avoid}(eo:EnvOk O M V env h)(ho:∀b,O' b->O b):EnvOk O' M V env h :=
 ⟨eo.kind,eo.gl,eo.bl,eo.sc,eo.apart,λx d k hx=>let ⟨v,a,b,o⟩:=eo.vars x d k hx; ⟨v,a,b.imp (λb zw h z=>h (ho b z)) (λzw zw zw a=>a) (Nat.le_refl _),o⟩⟩
noncomputable abbrev nextOf (e:Expr) (iter:Expr) (Z:Addr) (env:Env):Sem Unit:=do
 let x <- eval iter env
 standAt iter.pos
 let x <- foldedSetIterable iter env x
 let _ <- runOwn (.compStart e 1 (← holding [x] (pyIter x)) (.ref Z) env) env
theorem jV (elt target iter:Expr)(ifs:List Expr)(scope:Scope)(pos:Pos)(it:Value)(Z:Addr)(env:Env) :
  compTurn (.ListComp elt [⟨target,iter,ifs,0⟩] scope pos) 0 it (.ref Z) env=iG (.ListComp elt [⟨target,iter,ifs,0⟩] scope pos) 0 it (.ref Z) env iter.pos target ifs (tE elt Z env):=rfl
theorem rV (elt target iter:Expr)(ifs:List Expr)(target' iter':Expr)(ifs':List Expr)(scope:Scope)(pos:Pos)(it:Value)(Z:Addr)(env:Env) :
  compTurn (.ListComp elt [⟨target,iter,ifs,0⟩,⟨target',iter',ifs',0⟩] scope pos) 0 it (.ref Z) env =
   iG (.ListComp elt [⟨target,iter,ifs,0⟩,⟨target',iter',ifs',0⟩] scope pos) 0 it (.ref Z) env iter.pos target ifs (nextOf (.ListComp elt [⟨target,iter,ifs,0⟩,⟨target',iter',ifs',0⟩] scope pos) iter' Z env):=by
 unfold iG nextOf
 simp only [bind_assoc,pure_bind]
 rfl
theorem wH (elt target iter:Expr)(ifs:List Expr)(target' iter':Expr)(ifs':List Expr)(scope:Scope)(pos:Pos)(it:Value)(Z:Addr)(env:Env) :
  compTurn (.ListComp elt [⟨target,iter,ifs,0⟩,⟨target',iter',ifs',0⟩] scope pos) 1 it (.ref Z) env =
   iG (.ListComp elt [⟨target,iter,ifs,0⟩,⟨target',iter',ifs',0⟩] scope pos) 1 it (.ref Z) env iter'.pos target' ifs' (tE elt Z env):=rfl
structure LastS (g:Glob) (n:Nat) (elt target:Expr) (ifs:List Expr) (V:Rho) (d:D) (out:List D):Prop where
 ex:∃V' b,jG V target d=some V'/\IfsS g n V' ifs b/\((b=true/\∃e,out=[e]/\EvS g n V' elt e 0)\/(b=false/\out=[]))
theorem LastS.item {P:Avoid}{Z:Addr}{ifs:List Expr}{out:List D}{names:List (Str×NameKind)}(x:LastS g n elt target ifs V d out)(rm:Room n A)(pl:Place g O P env Z names) :
  ∃V' b,ItemS g n A O M P env Z (tE elt Z env) target ifs V d out V' b:=by
 obtain⟨V',b,h1,h2,h3⟩:=x.ex
 refine⟨V',b,h1,h2,λhb=>?_,λhb=>?_⟩
 ·rcases h3 with ⟨_,e,rfl,he⟩ | ⟨h,_⟩
  ·exact AC rm pl he
  ·rw [hb] at h; cases h
 ·rcases h3 with ⟨h,_⟩ | ⟨_,h⟩
  ·rw [hb] at h; cases h
  ·exact h
noncomputable def bR (names:List (Str×NameKind)) (xs:List Str):Bool:=xs.all λx=>names.lookup x==some .local || names.lookup x==some .cell
theorem eP {names:List (Str×NameKind)}{xs:List Str}(h:bR names xs=true)(hx:x∈xs):names.lookup x=some .local\/names.lookup x=some .cell:=by
 have:=List.all_eq_true.mp h _ hx
 simpa using this
theorem mH {names:List (Str×NameKind)}(h:names.lookup x=some .local\/names.lookup x=some .cell):(V.inner names).vars.lookup x=none:=by
 show(V.vars.filter λp=>names.lookup p.1==some .free).lookup x=none
 rw [cN (λy=>names.lookup y==some .free)]
 rcases h with h | h <;> rw [h] <;> rfl
theorem AB {P:Avoid}{Z:Addr}{target' iter':Expr}{ifs ifs':List Expr}{scope:Scope}{tt:Bool}{items:List D}{outs:List (List D)}{xs:List Str}{names:List (Str×NameKind)}
  (rm:Room n A) (pl:Place g O P env Z names) (hs:∀x,foldedSetIterable iter' env x=pure x) (I:IterS g n V tt iter' items) (htt:Tgt tt target') (hn:aR target'=some xs) (hst:bR names xs=true) (hfresh:∀x∈xs,V.vars.lookup x=none)
  (hlen:outs.length=items.length) (hit:∀(i:Nat) (d:D) (out:List D),items[i]?=some d->outs[i]?=some out->LastS g n elt target' ifs' V d out) :
  BodyS g A O M P env Z (nextOf (.ListComp elt [⟨target,iter,ifs,0⟩,⟨target',iter',ifs',0⟩] scope pos) iter' Z env) V outs.flatten:=by
 intro t ys E Q u aO aM eo fo acc hc q
 refine wpAny_bind (wpAny_mono (I O M env A t E (λit s_1=>wpAny g.M A (runOwn (.compStart (.ListComp elt [⟨target,iter,ifs,0⟩,⟨target',iter',ifs',0⟩] scope pos) 1 it (.ref Z) env) env) (λzw s'=>Q () s') E s_1) u rm aO aM eo ?_) (λx s' hx=>?_) λzw zw z=>z)
 ·intro it s_1 W St k1 it1
  have live:=pl.live t ys fo acc
  have hW:∀b,W b->t.heap.get? b=none:=λb hb=>(it1.wnew b hb).1
  have hPW:∀b,P b->¬W b:=λb hb hw=>by
   obtain⟨o,e⟩:=live b hb
   rw [hW b hw] at e; cases e
  refine wpAny_runOwn ?_
  let O2:Avoid:=λb=>O b\/W b
  have wdO:Wid O W O2 s_1:=⟨λb h=>.inl h,λb h=>by rcases h with h | h; exact .inl h; exact .inr (.inl h)⟩
  have hO2:∀b,O2 b->O b\/t.heap.get? b=none:=λb h=>by
   rcases h with h | h
   ·exact .inl h
   ·exact .inr (hW b h)
  have eo2:EnvOk O2 M V env s_1.heap:=by
   have:=eo
   refine⟨eo.kind,eo.gl,eo.bl,eo.sc,eo.apart,λx d k hx=>?_⟩
   obtain⟨v,a,b,ow⟩:=eo.vars x d k hx
   refine⟨v,a.keeps (aA k1),(b.imp (O':=O2) (M':=M) (λc hc' h z=>?_) (λzw zw zw a=>a) (Nat.le_refl _)).keeps (aA k1),ow⟩
   rcases hO2 c z with z | z
   ·exact h z
   ·rw [z] at hc'; cases hc'
  have aO2:Alloc O2 s_1:=λb h=>by
   rcases h with h | h
   ·exact aO.keeps k1 b h
   ·exact(it1.wnew b h).2
  have loop:codeAny g.M A (.compLoop (.ListComp elt [⟨target,iter,ifs,0⟩,⟨target',iter',ifs',0⟩] scope pos) 1 it (.ref Z) env) (λr s'=>match r with | .ok f=>Q () s' | .error e=>cameBackBy g.M A env E e s') s_1:=by
   refine zS (O0:=O) (O:=O2) (M0:=M) (M:=M) (W:=W) (P:=P) (s:=t) (s_1:=s_1) (St:=St) (V:=V) (outs:=outs) (ys0:=ys) (wH ..) rm it1 wdO Wid.refl (λb h=>.inr h) htt hn (λx hx=>pl.store x (eP hst hx)) hfresh
    (λb h=>.inl (pl.o b h)) (λb h=>.inl (pl.o b h)) hPW (λb o e=>⟨pl.g b o e,λhw=>by have:=u b o e; rw [hW b hw] at this; cases this⟩) pl.z pl.live hlen
    (λi d out h1 h2=>(hit i d out h1 h2).item rm ⟨pl.z,λb h=>.inl (pl.o b h),pl.g,pl.store,pl.live⟩) hc (Chg.of_keeps k1) it1.start ((acc).elim λm e=>⟨m,aA k1 _ _ e⟩) eo2 (fo.keeps (aA k1)) (u.keeps k1) aO2 (aM.keeps k1) ?_
   intro t' vs ch acc' rds eo' fo' u' al
   have nW:∀b,(∃o,t.heap.get? b=some o)->¬W b:=λb ⟨o,e⟩ hw=>by rw [hW b hw] at e; cases e
   exact q t' vs ch acc' (rds.imp (λb zw h z=>h (.inl z)) (λzw zw zw a=>a) (Nat.le_refl _)) (eo'.impO λb h=>.inl h) fo' u' (λb h=>al b (.inl (.inl h)) (nW b (aO b h))) (λb h=>al b (.inr h) (nW b (aM b h)))
  exact jN (c:=⟨target',iter',ifs',0⟩) rfl rfl loop λE'=>it1.self _ _ _ it1.start loop
 ·refine wpAny_bind (wpAny_standAt (wpAny_bind (wpAny_of_eq (hs x) ?_)))
  refine wpAny_bind (wpAny_holding (wpAny_mono hx (λit s_1 h_1=>?_) λzw zw z=>z))
  exact wpAny_bind (wpAny_mono h_1 (λzw zw z=>wpAny_pure z) λzw zw z=>z)
theorem nB (eo:EnvOk O M V env h)(scope:Scope):(relabel scope env).names=cF V.sc scope.names:=by
 unfold relabel cF
 refine List.map_congr_left λp zw=>?_
 obtain⟨x,k⟩:=p
 have:env.kindOf x=V.sc.lookup x:=by unfold Env.kindOf; rw [eo.sc]
 simp only [eo.kind,this]
 simp
theorem EnvOk.wid {O':Avoid}(eo:EnvOk O M V env h)(ho:∀b,O' b->O b\/h.get? b=none):EnvOk O' M V env h :=
 ⟨eo.kind,eo.gl,eo.bl,eo.sc,eo.apart,λx d k hx=>let ⟨v,a,b,o⟩:=eo.vars x d k hx; ⟨v,a,b.imp (λb hb h z=>by
  rcases ho b z with z | z
  ·exact h z
  ·rw [z] at hb; cases hb) (λzw zw zw a=>a) (Nat.le_refl _),o⟩⟩
noncomputable def AO (g:Glob) (n:Nat) (O M:Avoid) (V:Rho) (tt:Bool) (e:Expr) (ds:List D):Prop :=
 ∀(env:Env) (A:Around) (s:Shared) (E:Value->Shared->Prop) (Q:Value->Shared->Prop),g.Up s->Room n A->Alloc O s->Alloc M s->EnvOk O M V env s.heap →
  (∀it s_1 W St,Keeps s s_1->Itr g A tt it ds O M W s s_1 St->Q it s_1)->wpAny g.M A (eval e env) (λx s'=>wpAny g.M A (pyIter x) Q E s') E s
theorem mM {ifs:List Expr}{rest:List Comprehension}{scope:Scope}{use:Option (Value->Sem Unit)}{tt:Bool}{items:List D}{xs:List Str}{body:Addr->Env->Sem Unit}(J:Avoid->Addr->Nat->List Value->Heap->Prop)
  (rm:Room n A) (hform:∀it Z env',compTurn (.ListComp elt (⟨target,iter,ifs,0⟩::rest) scope cp) 0 it (.ref Z) env'=iG (.ListComp elt (⟨target,iter,ifs,0⟩::rest) scope cp) 0 it (.ref Z) env' iter.pos target ifs (body Z env'))
  (hs:∀x,foldedSetIterable iter env x=pure x) (hkind:scope.kind=.function) (ok:bW V scope.names=true) (I:AO g n O M V tt iter items) (htt:Tgt tt target) (hn:aR target=some xs) (hst:bR scope.names xs=true)
  (hJ:∀O' Z i vs h h',(∀b c us n,¬O' b->h.get? b=some { cls:=c,data:=.seq us n }->h'.get? b=some { cls:=c,data:=.seq us n })->J O' Z i vs h->J O' Z i vs h') (hJ0:∀O' Z h,J O' Z 0 [] h)
  (hit:∀O' P env' Z,Place g O' P env' Z scope.names->∀(i:Nat) (d:D),items[i]?=some d->∃V' b,ItemJ g n A O' M P env' Z #[] (body Z env') target ifs (V.inner scope.names) d V' b (J O' Z i) (J O' Z (i+1)))
  (u:g.Up s) (aO:Alloc O s) (aM:Alloc M s) (eo:EnvOk O M V env s.heap)
  (hq:∀O' Z C t' m vs,(∀b,O b->O' b)->O' Z->Keeps s t'->t'.heap.Ns C m->s.heap.get? C=none->s.heap.get? Z=none->AccAt t'.heap Z vs.toArray->J O' Z items.length vs t'.heap->compPost g.M A E use Q (.ref Z) C (.ok .next) t') :
  wpAny g.M A (comprehension (.ListComp elt (⟨target,iter,ifs,0⟩::rest) scope cp) scope env pos (newList []) false (eval iter env) use) Q E s:=by
 obtain⟨cl,hcl,c1,c2,c3⟩:=oD (env:=env) (scope:=scope) λx hx=>by
  obtain⟨d,k,c,v,_,h2,_⟩:=iV eo ok hx
  rw [h2]; rfl
 refine wpAny_comprehension_free (M:=g.M) rfl hs hcl hkind (λx hx hl=>by obtain⟨y,k⟩:=x; subst hl; exact(eJ ok hx).1) ?_
 refine I env A s E _ u rm aO aM eo λit s_1 W St k1 it1=>?_
 ((show let Q0:=_; let E0:=_; wpAny _ _ _ Q0 E0 _); intro Q0 E0)
 refine wpAny_newObj_type (j5 λh_1 cs lay=>wpAny_pure ?_)
 generalize hH:s_1.heap.push { cls:=.type "list",dict:=none,data:=.seq ([]:List Value).toArray }=H at lay ⊢
 have hHs:H.objs.size=s_1.heap.objs.size+1:=by rw [<- hH,Heap.size_push]
 have hZ:IsL H s_1.heap.objs.size #[] 0:=by rw [<- hH]; exact IsL.new _ _
 have hkH:∀b o,s_1.heap.get? b=some o->H.get? b=some o:=λb o e=>by rw [<- hH]; exact Heap.get?_push_of_some _ e
 have k2:Keeps s_1 { s_1 with heap:=h_1,toks:=s_1.toks }:=⟨h_1,_,rfl,λb o e=>lay.keep _ _ (hkH _ _ e)⟩
 generalize hcenv:({ newEnv scope H.objs.size env.globals cs env.qual none .none (some env) builtinsNs with scope:=relabel scope env }:Env)=cenv
 revert hcenv
 revert cenv
 refine id ?_
 intro cenv hcenv
 have n1:cenv.scope.kind=.function:=by rw [<- hcenv]; exact hkind
 have n2:cenv.globals=mainGlobals:=by rw [<- hcenv]; exact eo.gl
 have n3:cenv.builtins=builtinsNs:=by rw [<- hcenv]; exact eo.bl
 have n4:cenv.scope.names=cF V.sc scope.names:=by rw [<- hcenv]; exact nB eo scope
 have n5:cenv.cells=cs:=by rw [<- hcenv]; rfl
 have n6:cenv.locals=H.objs.size:=by rw [<- hcenv]; rfl
 let P:Avoid:=λb=>b=s_1.heap.objs.size\/b=H.objs.size\/∃x,(x,NameKind.cell)∈scope.names/\cs.lookup x=some b
 have hPge:∀b,P b->@LE.le Nat _ s_1.heap.objs.size b:=λb hb=>by
  rcases hb with hb | hb | ⟨x,hx,hc⟩
  ·rw [hb]; exact Nat.le_refl _
  ·rw [hb,hHs]; exact Nat.le_succ _
  ·rcases lay.look x with ⟨c,h1,h2,_⟩ | ⟨h1,_⟩
   ·rw [hc] at h1; cases h1; rw [hHs] at h2; omega
   ·exact absurd hx h1
 have hPn:∀b,P b->s_1.heap.get? b=none:=λb hb=>cJ (aD s_1) (hPge b hb)
 have hPs:∀b,P b->s.heap.get? b=none:=λb hb=>cJ k1 (hPge b hb)
 let O':Avoid:=λb=>O b\/W b\/P b
 have hW:∀b,W b->s.heap.get? b=none:=λb hb=>(it1.wnew b hb).1
 have kn:∀x,cenv.kindOf x=(scope.names.lookup x).map λk=>if (k==.free && V.sc.lookup x==some .cell) then .cell else k:=λx=>by unfold Env.kindOf; rw [n4]; exact dQ _ _ _
 have live:∀(t:Shared) ys,FrameOk cenv t.heap->AccAt t.heap s_1.heap.objs.size ys->∀b,P b->∃o,t.heap.get? b=some o:=λt ys fo acc b hb=>by
  rcases hb with hb | hb | ⟨x,hx,hc⟩
  ·obtain⟨m,e⟩:=acc; exact⟨_,hb ▸ e⟩
  ·obtain⟨m,o,_,_,e,_⟩:=fo.ns; exact⟨o,by rw [hb,<- n6]; exact e⟩
  ·obtain⟨c,v,e1,o,e2,_⟩:=fo.cell x (by rw [kn x,(eJ ok hx).1]; rfl)
   rw [n5,hc] at e1; cases e1
   exact⟨o,e2⟩
 have pl:Place g O' P cenv s_1.heap.objs.size scope.names:=by
  refine⟨.inl rfl,λb hb=>.inr (.inr hb),λb o e hb=>?_,λx hx=>?_,live⟩
  ·have:=u b o e; rw [hPs b hb] at this; cases this
  ·rcases hx with hx | hx
   ·have e:cenv.kindOf x=some .local:=by rw [kn x,hx]; rfl
    refine⟨.inl e,.inr (.inl ?_)⟩
    unfold fK; rw [e]; exact n6
   ·have e:cenv.kindOf x=some .cell:=by rw [kn x,hx]; rfl
    refine⟨.inr e,.inr (.inr ⟨x,mem_of_lookup hx,?_⟩)⟩
    unfold fK; rw [e]
    rcases lay.look x with ⟨c,h1,h2,_⟩ | ⟨h1,_⟩
    ·rw [n5,h1]; rfl
    ·exact absurd (mem_of_lookup hx) h1
 have eoH:EnvOk O' M V env H:=((eo.wid (O':=O') λb hb=>by
  rcases hb with hb | hb | hb
  ·exact .inl hb
  ·exact .inr (hW b hb)
  ·exact .inr (hPs b hb)).keeps (aA k1)).keeps hkH
 obtain⟨eo',fo'⟩:=yX (O':=O') (env':=cenv) (t:=h_1) eoH ok lay c1 c2 c3 n1 n2 n3 n4 n5 n6 (λzw zw e=>e) λb hb=>.inl hb
 have kk:Keeps s { s_1 with heap:=h_1,toks:=s_1.toks }:=aB k1 k2
 have st1:St 0 h_1:=it1.frame _ _ _ it1.start λb o zw zw zw e=>aA k2 b o e
 have acc1:AccAt h_1 s_1.heap.objs.size #[]:=⟨0,lay.keep _ _ hZ⟩
 have aO':Alloc O' { s_1 with heap:=h_1,toks:=s_1.toks }:=λb hb=>by
  rcases hb with hb | hb | hb
  ·exact aO.keeps kk b hb
  ·obtain⟨o,e⟩:=(it1.wnew b hb).2; exact⟨o,aA k2 _ _ e⟩
  ·exact live _ _ fo' acc1 b hb
 have nC:s.heap.get? H.objs.size=none:=hPs _ (.inr (.inl rfl))
 have loop:codeAny g.M A (.compLoop (.ListComp elt (⟨target,iter,ifs,0⟩::rest) scope cp) 0 it (.ref s_1.heap.objs.size) cenv) (compPost g.M A E use Q (.ref s_1.heap.objs.size) H.objs.size) { s_1 with heap:=h_1,toks:=s_1.toks }:=by
  refine mL (J O' s_1.heap.objs.size) (O0:=O) (O:=O') (M0:=M) (M:=M) (W:=W) (P:=P) (s:=s) (s_1:=s_1) (St:=St) (V:=V.inner scope.names) (ys0:=#[]) (hform _ _ _) rm it1 ⟨λb h=>.inl h,λb hb=>by
    rcases hb with hb | hb | hb
    ·exact .inl hb
    ·exact .inr (.inl hb)
    ·exact .inr (.inr (hPn b hb))⟩ Wid.refl (λb h=>.inr (.inl h)) htt hn (λx hx=>pl.store x (eP hst hx)) (λx hx=>mH (eP hst hx))
   (λb hb=>.inr (hPn b hb)) (λb hb hw=>by obtain⟨o,e⟩:=(it1.wnew b hw).2; rw [hPn b hb] at e; cases e) (λb o e=>⟨pl.g b o e,λhw=>by have:=u b o e; rw [hW b hw] at this; cases this⟩) pl.z live (λi vs h h' k=>hJ O' _ i vs h h' λb c us n hb=>k b c us n λz=>hb (.inr (.inl z))) (hJ0 _ _ _)
   (λi d h1=>hit O' P cenv _ pl i d h1) (Chg.of_keeps kk) st1 acc1 eo' fo' (u.keeps kk) aO' (aM.keeps kk) ?_
  intro t' vs ch acc' rds eo'' fo'' u' al
  have kt:Keeps s t':=by
   obtain⟨⟨h,tk,e⟩,k⟩:=ch
   refine⟨h,tk,e,λb o eb=>?_⟩
   have:=k b o (λhb=>by rw [hPs b hb] at eb; cases eb) eb
   rw [e] at this; exact this
  obtain⟨m,hm⟩:=fo''.ns
  rw [n6] at hm
  refine hq O' _ _ t' m vs (λb h=>.inl h) (.inr (.inr (.inl rfl))) kt hm nC (hPs _ (.inl rfl)) ?_ rds
  obtain⟨q,hacc⟩:=acc'
  exact⟨q,by simpa only [Array.empty_append] using hacc⟩
 exact jN (c:=⟨target,iter,ifs,0⟩) rfl rfl loop λE'=>it1.self _ _ _ st1 loop
theorem eL {ifs:List Expr}{rest:List Comprehension}{scope:Scope}{use:Option (Value->Sem Unit)}{tt:Bool}{items:List D}{outs:List (List D)}{xs:List Str}{body:Addr->Env->Sem Unit}
  (rm:Room n A) (hform:∀it Z env',compTurn (.ListComp elt (⟨target,iter,ifs,0⟩::rest) scope cp) 0 it (.ref Z) env'=iG (.ListComp elt (⟨target,iter,ifs,0⟩::rest) scope cp) 0 it (.ref Z) env' iter.pos target ifs (body Z env'))
  (hs:∀x,foldedSetIterable iter env x=pure x) (hkind:scope.kind=.function) (ok:bW V scope.names=true) (I:AO g n O M V tt iter items) (htt:Tgt tt target) (hn:aR target=some xs) (hst:bR scope.names xs=true) (hlen:outs.length=items.length)
  (hit:∀O' P env' Z,Place g O' P env' Z scope.names->∀(i:Nat) (d:D) (out:List D),items[i]?=some d->outs[i]?=some out->∃V' b,ItemS g n A O' M P env' Z (body Z env') target ifs (V.inner scope.names) d out V' b)
  (hcap:outs.flatten.length<=cap) (u:g.Up s) (aO:Alloc O s) (aM:Alloc M s) (eo:EnvOk O M V env s.heap)
  (hq:∀Z C t' m,Keeps s t'->t'.heap.Ns C m->s.heap.get? C=none->Rd O M t'.heap 0 (.ref Z) (.list outs.flatten)->compPost g.M A E use Q (.ref Z) C (.ok .next) t') :
  wpAny g.M A (comprehension (.ListComp elt (⟨target,iter,ifs,0⟩::rest) scope cp) scope env pos (newList []) false (eval iter env) use) Q E s:=by
 refine mM (λO' Z i vs h=>Rds O' M h 0 vs (outs.take i).flatten) rm hform hs hkind ok I htt hn hst (λO' Z i vs h h' k r=>r.gen Eq (λe=>e ▸ rfl) (λe a b c=>⟨a,λz=>b (e.trans z),k _ _ _ _ a c⟩) rfl) (λzw zw zw=>by simpa using Rds.nil) (λO' P env' Z pl i d hd=>?_) u aO aM eo λO' Z C t' m vs hO hZ kt hm nC nZ acc rds=>?_
 ·have hlt:i < outs.length:=by rw [hlen]; exact(List.getElem?_eq_some_iff.mp hd).1
  have ho:outs[i]?=some outs[i]:=List.getElem?_eq_getElem hlt
  obtain⟨V',b,IS⟩:=hit O' P env' Z pl i d _ hd ho
  have hsz:(outs.take (i+1)).flatten.length<=outs.flatten.length:=by
   conv=>rhs; rw [<- List.take_append_drop (i+1) outs,List.flatten_append,List.length_append]
   (exact Nat.le_add_right _ _)
  rw [iJ ho] at hsz
  have J:=IS.toJ (ys:=#[]) (ds:=(outs.take i).flatten) pl.o (by
   show 0+_<=cap
   rw [Nat.zero_add]; exact Nat.le_trans hsz hcap)
  rw [<- iJ ho] at J
  exact⟨V',b,J⟩
 ·have:outs.take items.length=outs:=by rw [<- hlen]; exact List.take_length
  rw [this] at rds
  obtain⟨q,hacc⟩:=acc
  refine hq _ _ t' m kt hm nC (.list (λz=>?_) (λzw z=>?_) ?_ hacc ?_)
  ·obtain⟨o,e⟩:=aO _ z; rw [nZ] at e; cases e
  ·obtain⟨o,e⟩:=aM _ z; rw [nZ] at e; cases e
  ·rw [List.size_toArray,rds.length]; exact hcap
  ·exact rds.imp (λb zw h z=>h (hO b z)) (λzw zw zw a=>a) (Nat.le_refl _)
theorem gE {t:Shared}{C:Addr}(k:Keeps s t)(hC:s.heap.get? C=none)(hs:Heap.SameBut C t.heap h'):Keeps s { t with heap:=h' }:=by
 obtain⟨h,tk,rfl,kk⟩:=k
 exact⟨h',tk,rfl,λb o e=>hs.extBut b o (λz=>by rw [z,hC] at e; cases e) (kk b o e)⟩
theorem mP {P:Avoid}{Z:Addr}{target' iter':Expr}{ifs ifs':List Expr}{scope:Scope}{tt':Bool}{xs xs':List Str}{out:List D}
  (rm:Room n A) (hs':∀env x,foldedSetIterable iter' env x=pure x) (htt':Tgt tt' target') (hn:aR target=some xs) (hn':aR target'=some xs') (hst':bR scope.names xs'=true) (hdis:xs'.all (λx=>!xs.contains x)=true) (pl:Place g O P env Z scope.names)
  (h:∃V' b,jG (V.inner scope.names) target d=some V'/\IfsS g n V' ifs b ∧
   ((b=true/\∃(items':List D) (outs':List (List D)),out=outs'.flatten/\outs'.length=items'.length/\IterS g n V' tt' iter' items'/\∀(j:Nat) (d':D) (out':List D),items'[j]?=some d'->outs'[j]?=some out'->LastS g n elt target' ifs' V' d' out')\/(b=false/\out=[]))) :
  ∃V' b,ItemS g n A O M P env Z (nextOf (.ListComp elt [⟨target,iter,ifs,0⟩,⟨target',iter',ifs',0⟩] scope cp) iter' Z env) target ifs (V.inner scope.names) d out V' b:=by
 obtain⟨V',b,h1,h2,h3⟩:=h
 refine⟨V',b,h1,h2,λhb=>?_,λhb=>?_⟩
 ·rcases h3 with ⟨_,items',outs',rfl,h4,h5,h6⟩ | ⟨h,_⟩
  ·refine AB rm pl (hs' env) h5 htt' hn' hst' (λx hx=>?_) h4 h6
   have:x∉xs:=by
    have:=List.all_eq_true.mp hdis x hx
    simpa using this
   rw [(jF h1 hn).2 x this]
   exact mH (eP hst' hx)
  ·rw [hb] at h; cases h
 ·rcases h3 with ⟨h,_⟩ | ⟨_,h⟩
  ·rw [hb] at h; cases h
  ·exact h
section
theorem ev_comp1 {ifs:List Expr}{scope:Scope}{tt:Bool}{items:List D}{outs:List (List D)}{xs:List Str}
  (hs:∀env x,foldedSetIterable iter env x=pure x) (hkind:scope.kind=.function) (ok:bW V scope.names=true) (I:IterS g n V tt iter items) (htt:Tgt tt target) (hn:aR target=some xs) (hst:bR scope.names xs=true) (hlen:outs.length=items.length) (hcap:outs.flatten.length<=cap)
  (hit:∀(i:Nat) (d:D) (out:List D),items[i]?=some d->outs[i]?=some out->LastS g n elt target ifs (V.inner scope.names) d out) :
  EvS g n V (.ListComp elt [⟨target,iter,ifs,0⟩] scope cp) (.list outs.flatten) 0:=by
 intro O M env A s E u rm aO aM eo
 rw [eval_ListComp]
 refine eL (use:=none) rm (λit Z env'=>jV ..) (hs env) hkind ok (I _ _) htt hn hst hlen (λO' P env' Z pl i d out h1 h2=>(hit i d out h1 h2).item rm pl) hcap u aO aM eo λZ C t' m k hm hC r=>?_
 exact⟨m,hm,λh' hs'=>⟨gE k hC hs',r.seqs λb c vs q e=>hs'.extBut b _ (dT hm e) e⟩⟩
theorem ev_comp2 {target' iter':Expr}{ifs ifs':List Expr}{scope:Scope}{tt tt':Bool}{items:List D}{outs:List (List D)}{xs xs':List Str}
  (hs:∀env x,foldedSetIterable iter env x=pure x) (hs':∀env x,foldedSetIterable iter' env x=pure x) (hkind:scope.kind=.function) (ok:bW V scope.names=true) (I:IterS g n V tt iter items) (htt:Tgt tt target) (htt':Tgt tt' target') (hn:aR target=some xs) (hn':aR target'=some xs') (hst:bR scope.names xs=true) (hst':bR scope.names xs'=true) (hdis:xs'.all (λx=>!xs.contains x)=true) (hlen:outs.length=items.length) (hcap:outs.flatten.length<=cap)
  (hit:∀(i:Nat) (d:D) (out:List D),items[i]?=some d->outs[i]?=some out->∃V' b,jG (V.inner scope.names) target d=some V'/\IfsS g n V' ifs b ∧
   ((b=true/\∃(items':List D) (outs':List (List D)),out=outs'.flatten/\outs'.length=items'.length/\IterS g n V' tt' iter' items'/\∀(j:Nat) (d':D) (out':List D),items'[j]?=some d'->outs'[j]?=some out'->LastS g n elt target' ifs' V' d' out')\/(b=false/\out=[]))) :
  EvS g n V (.ListComp elt [⟨target,iter,ifs,0⟩,⟨target',iter',ifs',0⟩] scope cp) (.list outs.flatten) 0:=by
 intro O M env A s E u rm aO aM eo
 rw [eval_ListComp]
 refine eL (use:=none) rm (λit Z env'=>rV ..) (hs env) hkind ok (I _ _) htt hn hst hlen (λO' P env' Z pl i d out h1 h2=>mP rm hs' htt' hn hn' hst' hdis pl (hit i d out h1 h2)) hcap u aO aM eo λZ C t' m k hm hC r=>?_
 exact⟨m,hm,λh' hs'=>⟨gE k hC hs',r.seqs λb c vs q e=>hs'.extBut b _ (dT hm e) e⟩⟩
end
set_option backward.match.sparseCases false
noncomputable def repL (xs:List D) (n:Nat):List D:=(List.replicate n xs).flatten
theorem pY {α:Type}:∀(l:List (Array α)) (z:Array α),(l.foldl (λx1 x2=>x1++x2) z).toList=z.toList++(l.map (·.toList)).flatten
 | [],z=>by simp
 | a::l,z=>by rw [List.foldl_cons,pY l]; simp
theorem Rds.rep {O M:Avoid}{h:Heap}{k:Nat}{vs:List Value}{ds:List D}(r:Rds O M h k vs ds):∀n,Rds O M h k (List.replicate n vs).flatten (List.replicate n ds).flatten
 | 0=>.nil
 | n+1=>by rw [List.replicate_succ,List.replicate_succ,List.flatten_cons,List.flatten_cons]; exact r.append (r.rep n)
theorem uF {α:Type}(xs:List α)(n:Nat):((List.replicate n xs).flatten).length=xs.length*n:=by
 rw [List.length_flatten,List.map_replicate,List.sum_replicate_nat,Nat.mul_comm]
theorem AD {ka kb:Nat}{xs:List D}{i:Int}(h0:0<=i)(h:xs.length*i.toNat<=cap)(h2:i<=cap)(ha:ka<=1):BinS g n .Mult (.list xs) ka (.int i) kb (.list (repL xs i.toNat)) 0:=λO M A s E va vb r aO aM ra rb=>by
 obtain⟨l,items,m,rfl,h1,hl,h3,_,_⟩:=bC ra
 obtain⟨u,rfl⟩:=aH rb
 have l1:=h3.length
 rw [Array.length_toList] at l1
 have hc:cap=100000:=rfl
 have hsz:items.size*i.toNat<=2 ^ 24:=by rw [l1]; (exact Nat.le_trans (by assumption) (by decide))
 refine wpAny_binaryOp_repeat_ref (T:="list") (U:="int") (by decide) ⟨_,hl,rfl⟩ (λs'=>typeIs_int s' i u) noFill_list_mul F.fills_int_mul F.slot_int_rmul repeat_list F.slot_int_index.lookup
  (call_meets F.slot_int_rmul (typeIs_int s i u) F.entry_int_rmul (F.args_int_rmul_2 _ _) (int___rmul___int_list i u l items m)
   ⟨hl,rfl,⟨_,hl,rfl⟩,call_meets F.slot_list_mul ⟨_,hl,rfl⟩ F.entry_list_mul (F.args_list_mul_2 _ _)
    (AutoListH.list___mul___list_int_3 l items m i u (by simp [Builtin.List.listFitsIndex]; grind) (by grind) (by simp [Builtin.List.listTooLong,sizeLine]; assumption))
    ⟨hl,aI s _ _,?_⟩⟩)
 have e:(List.foldl (λx1 x2=>x1++x2) #[] (List.replicate (if items.isEmpty=true then 0 else i.toNat) items)).toList=(List.replicate i.toNat items.toList).flatten:=by
  rw [pY]
  simp only [List.nil_append]
  split
  ·rename_i he
   have:items=#[]:=by simpa using he
   subst this
   simp
  ·rw [List.map_replicate]
 refine dS aO aM ?_ ?_
 ·rw [<- Array.length_toList,e,uF,Array.length_toList,l1]; exact h
 ·rw [e]
  exact(h3.le (by omega)).rep _
noncomputable abbrev DK:=D×Nat
noncomputable def oW (x:Int):Bool:=decide (x.natAbs<=1000000000)
theorem mU {x:Int}(h:oW x=true):Builtin.Int.intBits x<=64:=by
 have h:x.natAbs<=1000000000:=of_decide_eq_true h
 unfold Builtin.Int.intBits
 split
 ·decide
 ·rename_i h0
  have h0:x≠0:=by simpa using h0
  have:x.natAbs.log2 < 31:=(Nat.log2_lt (by omega)).mpr (by omega)
  (exact Nat.le_trans (by assumption) (by decide))
theorem gd {α:Type}{c:Prop}[Decidable c] {t:Option α}{r:α}(h:(if c then t else none)=some r):c/\t=some r :=
 if hc:c then ⟨hc,(if_pos hc).symm.trans h⟩ else no ((if_neg hc).symm.trans h)
theorem bd {α β:Type}{x:Option α}{f:α->Option β}{r:β}{P:Prop}(h:x.bind f=some r)(k:∀a,x=some a->f a=some r->P):P :=
 (Option.bind_eq_some_iff.mp h).elim λa z=>k a z.1 z.2
theorem sm {α:Type}{a b:α}{P:α->Prop}(h:some a=some b)(p:P a):P b:=Option.some.inj h ▸ p
noncomputable def onI {α:Type} (f:Int->Option α):D->Option α
 | .int x=>f x
 | _=>none
noncomputable def onS {α:Type} (f:Str->Option α):D->Option α
 | .str x=>f x
 | _=>none
noncomputable def onL {α:Type} (f:List D->Option α):D->Option α
 | .list x=>f x
 | _=>none
theorem cH {α:Type}{f:Int->Option α}{r:α}{P:D->Prop}(h:onI f d=some r)(k:∀x,f x=some r->P (.int x)):P d:=by
 cases d <;> first | exact k _ h | exact no h
theorem jM {α:Type}{f:Str->Option α}{r:α}{P:D->Prop}(h:onS f d=some r)(k:∀x,f x=some r->P (.str x)):P d:=by
 cases d <;> first | exact k _ h | exact no h
theorem sM {α:Type}{f:List D->Option α}{r:α}{P:D->Prop}(h:onL f d=some r)(k:∀x,f x=some r->P (.list x)):P d:=by
 cases d <;> first | exact k _ h | exact no h
noncomputable def onD {α:Type} (i:Int->Option α) (s:Str->Option α) (l:List D->Option α):D->Option α
 | .int x=>i x
 | .str x=>s x
 | .list x=>l x
 | _=>none
theorem kO {α:Type}{i:Int->Option α}{s:Str->Option α}{l:List D->Option α}{r:α}{P:D->Prop}(h:onD i s l d=some r)(ki:∀x,i x=some r->P (.int x))(ks:∀x,s x=some r->P (.str x))(kl:∀x,l x=some r->P (.list x)):P d:=by
 cases d <;> first | exact ki _ h | exact ks _ h | exact kl _ h | exact no h
noncomputable def nI (f:Int->Int->Option D) (a b:D):Option DK:=onI (λx=>onI (λy=>(f x y).bind λd=>some (d,0)) b) a
noncomputable def binD:Operator->D->Nat->D->Nat->Option DK
 | .Add=>λa ka b kb=>onD (λx=>onI (λy=>some (.int (x+y),0)) b)
  (λx=>onS (λy=>if x.length+y.length<=cap then some (.str (x++y),0) else none) b)
  (λx=>onL (λy=>if x.length+y.length<=cap/\ka<=1/\kb<=1 then some (.list (x++y),0) else none) b) a
 | .Sub=>λa zw b zw=>nI (λx y=>some (.int (x - y))) a b
 | .Mult=>λa ka b zw=>onI (λy=>onD (λx=>if oW x then some (.int (x*y),0) else none) (λzw=>none) (λx=>if 0<=y/\x.length*y.toNat<=cap/\y<=cap/\ka<=1 then some (.list (repL x y.toNat),0) else none) a) b
 | .Mod=>λa zw b zw=>nI (λx y=>if y≠0 then some (.int (x.fmod y)) else none) a b
 | .FloorDiv=>λa zw b zw=>nI (λx y=>if y≠0/\y.natAbs < 1073741824 then some (.int (x.fdiv y)) else none) a b
 | .Pow=>λa zw b zw=>nI (λx y=>if 0<=y/\y<=100/\oW x=true then some (.int (x ^ y.toNat)) else none) a b
 | _=>λzw zw zw zw=>none
theorem nI_el {f:Int->Int->Option D}{a b:D}{r:DK}{P:D->D->DK->Prop}(h:nI f a b=some r)(k:∀x y d,f x y=some d->P (.int x) (.int y) (d,0)):P a b r :=
 cH (P:=λa=>P a b r) h λx h=>cH (P:=λb=>P (.int x) b r) h λy h=>bd h λd e h=>sm h (k x y d e)
theorem v7 {op:Operator}{a b:D}{ka kb:Nat}{r:DK}(h:binD op a ka b kb=some r):BinS g n op a ka b kb r.1 r.2:=by
 cases op with
 | Add =>
  exact kO (P:=λa=>BinS g n .Add a ka b kb r.1 r.2) h
   (λx h=>cH (P:=λb=>BinS g n .Add _ ka b kb r.1 r.2) h λy h=>sm (P:=λr=>BinS g n .Add _ ka _ kb r.1 r.2) h bin_add)
   (λx h=>jM (P:=λb=>BinS g n .Add _ ka b kb r.1 r.2) h λy h=>sm (P:=λr=>BinS g n .Add _ ka _ kb r.1 r.2) (gd h).2 (bin_cat (gd h).1))
   (λx h=>sM (P:=λb=>BinS g n .Add _ ka b kb r.1 r.2) h λy h=>sm (P:=λr=>BinS g n .Add _ ka _ kb r.1 r.2) (gd h).2 (mW (gd h).1.1 (gd h).1.2.1 (gd h).1.2.2))
 | Sub=>exact nI_el (P:=λa b r=>BinS g n .Sub a ka b kb r.1 r.2) h λx y d h=>sm (P:=λd=>BinS g n .Sub _ ka _ kb d 0) h bin_sub
 | Mult =>
  exact cH (P:=λb=>BinS g n .Mult a ka b kb r.1 r.2) h λy h=>kO (P:=λa=>BinS g n .Mult a ka _ kb r.1 r.2) h
   (λx h=>sm (P:=λr=>BinS g n .Mult _ ka _ kb r.1 r.2) (gd h).2 (bin_mul (IntMulOk.of_left (mU (gd h).1)))) (λzw h=>no h)
   (λx h=>sm (P:=λr=>BinS g n .Mult _ ka _ kb r.1 r.2) (gd h).2 (AD (gd h).1.1 (gd h).1.2.1 (gd h).1.2.2.1 (gd h).1.2.2.2))
 | Mod=>exact nI_el (P:=λa b r=>BinS g n .Mod a ka b kb r.1 r.2) h λx y d h=>sm (P:=λd=>BinS g n .Mod _ ka _ kb d 0) (gd h).2 (bin_mod (gd h).1)
 | FloorDiv=>exact nI_el (P:=λa b r=>BinS g n .FloorDiv a ka b kb r.1 r.2) h λx y d h=>sm (P:=λd=>BinS g n .FloorDiv _ ka _ kb d 0) (gd h).2 (bin_fdiv (gd h).1.1 (gd h).1.2)
 | Pow=>exact nI_el (P:=λa b r=>BinS g n .Pow a ka b kb r.1 r.2) h λx y d h=>sm (P:=λd=>BinS g n .Pow _ ka _ kb d 0) (gd h).2 (bin_pow (gd h).1.1 (Int.le_trans (Int.mul_le_mul (Int.ofNat_le.mpr (mU (gd h).1.2.2)) (gd h).1.2.1 (gd h).1.1 (by decide)) (by decide)))
 | _=>exact no h
noncomputable def nH:D->Option Unit
 | .none=>some ()
 | _=>none
theorem jX {r:Unit}{P:D->Prop}(h:nH d=some r)(p:P .none):P d:=by
 cases d <;> first | exact p | exact no h
noncomputable def cI (f:Int->Int->Bool) (a b:D):Option Bool:=onI (λx=>onI (λy=>some (f x y)) b) a
theorem cI_el {f:Int->Int->Bool}{a b:D}{r:Bool}{P:D->D->Bool->Prop}(h:cI f a b=some r)(k:∀x y,P (.int x) (.int y) (f x y)):P a b r :=
 cH (P:=λa=>P a b r) h λx h=>cH (P:=λb=>P (.int x) b r) h λy h=>sm h (k x y)
noncomputable def AA (a b:D):Option (Int×Int):=onI (λx=>onI (λy=>some (x,y)) b) a
noncomputable def vZ (a b:D):Option (Str×Str):=onS (λx=>onS (λy=>some (x,y)) b) a
theorem j4 {a b:D}{r:Int×Int}{P:D->D->Prop}(h:AA a b=some r)(k:P (.int r.1) (.int r.2)):P a b :=
 cH (P:=λa=>P a b) h λx h=>cH (P:=λb=>P (.int x) b) h λy h=>by cases h; exact k
theorem j1 {a b:D}{r:Str×Str}{P:D->D->Prop}(h:vZ a b=some r)(k:P (.str r.1) (.str r.2)):P a b :=
 jM (P:=λa=>P a b) h λx h=>jM (P:=λb=>P (.str x) b) h λy h=>by cases h; exact k
noncomputable def orE {α β:Type} (x:Option α) (f:α->β) (y:Option β):Option β:=match x with
 | some a=>some (f a)
 | none=>y
theorem fP {α β:Type}{x:Option α}{f:α->β}{y:Option β}{r:β}{P:Prop}(h:orE x f y=some r)(k:∀a,x=some a->f a=r->P)(l:y=some r->P):P:=by
 cases x with
 | none=>exact l h
 | some a=>exact k a rfl (Option.some.inj h)
noncomputable def seqB (a b:D) (r:Bool):Option Bool:=if SeqAt.shaped a=true/\SeqAt.shaped b=true then some r else none
noncomputable def cmpD (op:CmpOp) (a b:D):Option Bool :=
 match op with
 | .Eq=>orE (AA a b) (λp=>p.1==p.2) (orE (vZ a b) (λp=>p.1.cps.toList==p.2.cps.toList) (seqB a b (PyData.eqv a b)))
 | .NotEq=>orE (AA a b) (λp=>p.1 != p.2) (orE (vZ a b) (λp=>p.1.cps.toList != p.2.cps.toList) (seqB a b (!PyData.eqv a b)))
 | .Lt=>cI (λx y=>decide (x < y)) a b
 | .LtE=>cI (λx y=>decide (x<=y)) a b
 | .Gt=>cI (λx y=>decide (x > y)) a b
 | .GtE=>cI (λx y=>decide (x>=y)) a b
 | .In=>onD (λzw=>none) (λx=>onS (λy=>some (!(Builtin.Str.occurrences x y 0 x.length 1).isEmpty)) a) (λzw=>none) b
 | .NotIn=>onL (λxs=>seqB a (.list xs) (!xs.any λy=>PyData.eqv y a)) b
 | .Is=>(nH b).bind λzw=>some (isN a)
 | .IsNot=>(nH b).bind λzw=>some (!isN a)
theorem mT (hn:1<=n){op:CmpOp}{a b:D}{ka kb:Nat}{r:Bool}(h:cmpD op a b=some r):CmpS g n op a ka b kb r:=by
 cases op with
 | Eq=>exact fP h (λp e z=>z ▸ j4 (P:=λa b=>CmpS g n .Eq a ka b kb (p.1==p.2)) e mS) λh=>fP h (λp e z=>z ▸ j1 (P:=λa b=>CmpS g n .Eq a ka b kb (p.1.cps.toList==p.2.cps.toList)) e vR) λh=>sm (gd h).2 (cmp_eq (gd h).1.1 (gd h).1.2 hn)
 | NotEq=>exact fP h (λp e z=>z ▸ j4 (P:=λa b=>CmpS g n .NotEq a ka b kb (p.1 != p.2)) e vL) λh=>fP h (λp e z=>z ▸ j1 (P:=λa b=>CmpS g n .NotEq a ka b kb (p.1.cps.toList != p.2.cps.toList)) e vK) λh=>sm (gd h).2 (cmp_ne (gd h).1.1 (gd h).1.2 hn)
 | Lt=>exact cI_el (P:=λa b r=>CmpS g n .Lt a ka b kb r) h λzw zw=>vM
 | LtE=>exact cI_el (P:=λa b r=>CmpS g n .LtE a ka b kb r) h λzw zw=>vN
 | Gt=>exact cI_el (P:=λa b r=>CmpS g n .Gt a ka b kb r) h λzw zw=>vP
 | GtE=>exact cI_el (P:=λa b r=>CmpS g n .GtE a ka b kb r) h λzw zw=>vQ
 | In =>
  exact kO (P:=λb=>CmpS g n .In a ka b kb r) h (λzw h=>no h)
   (λx h=>jM (P:=λa=>CmpS g n .In a ka _ kb r) h λy h=>sm h vO)
   (λxs h=>no h)
 | NotIn=>exact sM (P:=λb=>CmpS g n .NotIn a ka b kb r) h λxs h=>sm (gd h).2 (lV (gd h).1.1 (gd h).1.2 hn)
 | Is=>exact bd h λzw e h=>jX (P:=λb=>CmpS g n .Is a ka b kb r) e (sm h hG)
 | IsNot=>exact bd h λzw e h=>jX (P:=λb=>CmpS g n .IsNot a ka b kb r) e (sm h dC)
noncomputable def j9:List D->Option (List Int)
 | []=>some []
 | d::r=>onI (λi=>(j9 r).bind λis=>some (i::is)) d
theorem fH:∀{ds:List D} {is:List Int},j9 ds=some is->ds=is.map .int
 | [],_,h=>sm (P:=λis=>[]=is.map PyData.int) h rfl
 | d::r,is,h=>cH (P:=λd=>d::r=is.map .int) h λi h=>bd h λjs e h=>sm (P:=λis=>.int i::r=is.map PyData.int) h (congrArg (PyData.int i::·) (fH e))
@[simp] theorem toInts_map:∀(is:List Int),j9 (is.map .int)=some is
 | []=>rfl
 | i::r=>by rw [List.map_cons]; unfold j9; rw [toInts_map r]; rfl
noncomputable def one1 (f:D->Option D):List D->Option D
 | [d]=>f d
 | _=>none
theorem nF {f:D->Option D}{r:D}{P:List D->Prop}(h:one1 f ds=some r)(k:∀d,f d=some r->P [d]):P ds:=match ds,h with
 | [d],h=>k d h
noncomputable def one2 (f:D->Option D) (g:D->D->Option D):List D->Option D
 | [d]=>f d
 | [d,e]=>g d e
 | _=>none
theorem kN {f:D->Option D}{g:D->D->Option D}{r:D}{P:List D->Prop}(h:one2 f g ds=some r)(k:∀d,f d=some r->P [d])(l:∀d e,g d e=some r->P [d,e]):P ds:=match ds,h with
 | [d],h=>k d h
 | [d,e],h=>l d e h
noncomputable def lsI (f:List Int->Option D):D->Option D:=onL λxs=>(j9 xs).bind f
theorem lsI_el {f:List Int->Option D}{r:D}{P:D->Prop}(h:lsI f d=some r)(k:∀is,f is=some r->P (.list (is.map .int))):P d :=
 sM h λxs h=>bd h λis e h=>fH e ▸ k is h
noncomputable def btD (f:Str) (ds:List D):Option D :=
 if f==("int":Str) then one1 (onI λi=>some (.int i)) ds
 else if f==("len":Str) then one1 (onD (λzw=>none) (λx=>if x.length<=cap then some (.int x.length) else none) λxs=>some (.int xs.length)) ds
 else if f==("min":Str) then one2 (λzw=>none) (λa b=>(AA a b).bind λp=>some (.int (min p.1 p.2))) ds
 else if f==("max":Str) then one2 (λzw=>none) (λa b=>(AA a b).bind λp=>some (.int (max p.1 p.2))) ds
 else if f==("sum":Str) then one1 (lsI λis=>some (.int is.sum)) ds
 else none
structure Names (g:Glob):Prop where
 int:Callee g "int" (.type "int")
 len:Callee g "len" (.builtin "len")
 min:Callee g "min" (.builtin "min")
 max:Callee g "max" (.builtin "max")
 sum:Callee g "sum" (.builtin "sum")
 range:Callee g "range" (.type "range")
 enum:Callee g "enumerate" (.type "enumerate")
 zip:Callee g "zip" (.type "zip")
theorem eM {α:Type}{f:Str}{c:Str}{x y:Option α}{r:α}{P:Str->Prop}(h:(if (f==c)=true then x else y)=some r)(k:x=some r->P c)(l:y=some r->P f):P f :=
 if e:(f==c)=true then (beq_iff_eq.mp e) ▸ k ((if_pos e).symm.trans h) else l ((if_neg e).symm.trans h)
theorem z8 (N:Names g){f:Str}{ks:Nat}(h:btD f ds=some d):∃v,Callee g f v/\(f==("__debug__":Str))=false/\aZ g n v ds ks d 0:=by
 refine eM (P:=λf=>∃v,Callee g f v/\(f==("__debug__":Str))=false/\aZ g n v ds ks d 0) h (λh=>⟨_,N.int,by decide,?_⟩) λh =>
  eM (P:=λf=>∃v,Callee g f v/\(f==("__debug__":Str))=false/\aZ g n v ds ks d 0) h (λh=>⟨_,N.len,by decide,?_⟩) λh =>
  eM (P:=λf=>∃v,Callee g f v/\(f==("__debug__":Str))=false/\aZ g n v ds ks d 0) h (λh=>⟨_,N.min,by decide,?_⟩) λh =>
  eM (P:=λf=>∃v,Callee g f v/\(f==("__debug__":Str))=false/\aZ g n v ds ks d 0) h (λh=>⟨_,N.max,by decide,?_⟩) λh =>
  eM (P:=λf=>∃v,Callee g f v/\(f==("__debug__":Str))=false/\aZ g n v ds ks d 0) h (λh=>⟨_,N.sum,by decide,?_⟩) λh=>no h
 ·exact nF (P:=λds=>aZ g n _ ds ks d 0) h λa h=>cH (P:=λa=>aZ g n _ [a] ks d 0) h λi h=>sm (P:=λd=>aZ g n _ _ ks d 0) h call_int
 ·exact nF (P:=λds=>aZ g n _ ds ks d 0) h λa h=>kO (P:=λa=>aZ g n _ [a] ks d 0) h (λzw h=>no h) (λx h=>sm (P:=λd=>aZ g n _ _ ks d 0) (gd h).2 (vW (gd h).1)) λx h=>sm (P:=λd=>aZ g n _ _ ks d 0) h vX
 ·exact kN (P:=λds=>aZ g n _ ds ks d 0) h (λa h=>no h) λa b h=>bd h λp e h=>j4 (P:=λa b=>aZ g n _ [a,b] ks d 0) e (sm (P:=λd=>aZ g n _ _ ks d 0) h z6)
 ·exact kN (P:=λds=>aZ g n _ ds ks d 0) h (λa h=>no h) λa b h=>bd h λp e h=>j4 (P:=λa b=>aZ g n _ [a,b] ks d 0) e (sm (P:=λd=>aZ g n _ _ ks d 0) h z7)
 ·exact nF (P:=λds=>aZ g n _ ds ks d 0) h λa h=>lsI_el (P:=λa=>aZ g n _ [a] ks d 0) h λis h=>sm (P:=λd=>aZ g n _ _ ks d 0) h vU
set_option backward.match.sparseCases true
section
noncomputable abbrev IsZ (h:Heap) (z ti to:Addr) (f0 f1:Value):Prop:=h.get? z=some { cls:=.type "zip",dict:=none,data:=.fields #[f0,f1,.bool false,.ref ti,.ref to],slots:=#[] }
structure ZAp (z ti to i1 i2:Addr) (f1 f2:List Addr):Prop where
 tiz:ti≠z
 toz:to≠z
 i1z:i1≠z
 i2z:i2≠z
 tito:ti≠to
 tii1:ti≠i1
 tii2:ti≠i2
 toi1:to≠i1
 toi2:to≠i2
 i12:i1≠i2
 z1:z∉f1
 z2:z∉f2
 o1:to∉f1
 o2:to∉f2
 x1:i2∉f1
 x2:i1∉f2
section
variable {prog:Program} {w:World} {z ti to i1 i2:Addr} {f1 f2:List Addr} {n1 n2:Nat} {P1 P2:Nat->Value->Prop} {St1 St2:Nat->Heap->Prop} {a b:Value}
theorem gone {c:Addr}{Q:Option Obj->Shared->Prop}(ho:s.heap.get? c=none)(h:Q none s):wpAny (model prog w) A (loadIfAlive c) Q E s:=λzw zw zw=>(show Q (s.heap.get? c) s from ho ▸ h)
noncomputable def ZFree (h:Heap) (f0:Value):Prop:=f0=.none\/∃T:Addr,f0=rawInt T/\h.get? T=none
theorem isFree {Q:Bool->Shared->Prop}{f0 g1:Value}(hz:IsZ s.heap z ti to f0 g1)(hf:ZFree s.heap f0)(q:Q true s):wpAny (model prog w) A (Builtin.SmallTypes.ownedTupleIsFree (.ref z)) Q E s:=by
 unfold Builtin.SmallTypes.ownedTupleIsFree
 refine wpAny_bind (wpAny_field hz rfl (x:=f0) rfl ?_)
 rcases hf with rfl | ⟨T,rfl,hT⟩
 ·exact wpAny_pure q
 ·show wpAny _ _ (loadIfAlive (T:Int).toNat >>= _) _ _ _
  refine wpAny_bind (gone hT ?_)
  simp only [Option.isNone_none,if_true]
  exact wpAny_pure q
theorem zipA {f0 g1:Value}(D1:Draws prog w A i1 f1 n1 P1 St1)(D2:Draws prog w A i2 f2 n2 P2 St2)(ap:ZAp z ti to i1 i2 f1 f2)
  (hz:IsZ s.heap z ti to f0 g1) (hf:ZFree s.heap f0) (ht:IsPair s.heap ti (.ref i1) (.ref i2)) (ho:IsPair s.heap to a b) (s1:St1 k s.heap) (s2:St2 k s.heap) (l1:k < n1) (l2:k < n2)
  (hQ:∀x y h' tk,P1 k x->P2 k y->IsZ h' z ti to (rawInt s.heap.objs.size) (.bool false)->IsPair h' to x y->St1 (k+1) h'->St2 (k+1) h'->IsPair h' s.heap.objs.size x y →
   (∀c o,c≠z->c≠to->c≠i1->c≠i2->s.heap.get? c=some o->h'.get? c=some o)->Q (.ref s.heap.objs.size) { s with heap:=h',toks:=tk }) :
  wpAny (model prog w) A (Builtin.«zip.__next__» ⟨[.ref z],[]⟩) (λfin s'=>∃v,fin=.done (.ret v)/\Q v s') E s:=by
 show wpAny _ _ (field (.ref z) 2 >>= _) _ _ _
 refine wpAny_bind (wpAny_field hz rfl (x:=.bool false) rfl ?_)
 show wpAny _ _ (field (.ref z) 3 >>= _) _ _ _
 refine wpAny_bind (wpAny_field hz rfl (x:=.ref ti) rfl ?_)
 refine wpAny_bind (wpAny_seqItems ht rfl ?_)
 show wpAny _ _ (Builtin.SmallTypes.ownedTupleIsFree (.ref z) >>= _) _ _ _
 refine wpAny_bind (isFree hz hf ?_)
 simp only [if_true]
 refine wpAny_bind (wpAny_rule ?_)
 refine wpAny_bind (wpAny_field hz rfl (x:=.ref to) rfl ?_)
 refine wpAny_bind (wpAny_setField_rec hz (by simp) λh1 hz1 hs1=>?_)
 replace hz1:IsZ h1 z ti to .ellipsis g1:=hz1
 refine wpAny_bind ?_
 simp only [List.zipIdx_cons,List.zipIdx_nil,List.forIn_cons,List.forIn_nil]
 have fr1:∀{h h':Heap},(∀c o,c≠z->h.get? c=some o->h'.get? c=some o)->∀{j},St1 j h->St1 j h':=λ{_ _} kk {_} st=>D1.frame _ _ _ st λc hc o e=>kk c o (λq=>ap.z1 (q ▸ hc)) e
 have fr2:∀{h h':Heap},(∀c o,c≠z->h.get? c=some o->h'.get? c=some o)->∀{j},St2 j h->St2 j h':=λ{_ _} kk {_} st=>D2.frame _ _ _ st λc hc o e=>kk c o (λq=>ap.z2 (q ▸ hc)) e
 refine wpAny_bind (wpAny_bind (wpAny_onRaise ?_))
 show wpAny _ _ (Builtin.SmallTypes.nextOf (.ref i1) >>= _) _ _ _
 refine wpAny_bind (D1.item k _ _ _ l1 (fr1 hs1.extBut s1) λx h2 tk2 px st12 hs2=>wpAny_pure ?_)
 have ho2:IsPair h2 to a b:=hs2.extBut _ _ ap.toi1 (hs1.extBut _ _ ap.toz ho)
 refine wpAny_bind (wpAny_seqItems ho2 rfl ?_)
 refine wpAny_bind (wpAny_updateSeq_pair ho2 λh3 ho3 hs3=>?_)
 replace ho3:IsPair h3 to x b:=ho3
 refine wpAny_bind (wpAny_letGo (wpAny_pure ?_))
 refine wpAny_bind (wpAny_bind (wpAny_onRaise ?_))
 show wpAny _ _ (Builtin.SmallTypes.nextOf (.ref i2) >>= _) _ _ _
 have s23:St2 k h3:=D2.frame _ _ _ (fr2 hs1.extBut s2) λc hc o e=>hs3.extBut _ _ (λq=>ap.o2 (q ▸ hc)) (hs2.extBut _ _ (λq=>ap.x2 (q ▸ hc)) e)
 refine wpAny_bind (D2.item k _ _ _ l2 s23 λy h4 tk4 py st24 hs4=>wpAny_pure ?_)
 have ho4:IsPair h4 to x b:=hs4.extBut _ _ ap.toi2 ho3
 refine wpAny_bind (wpAny_seqItems ho4 rfl ?_)
 refine wpAny_bind (wpAny_updateSeq_pair ho4 λh5 ho5 hs5=>?_)
 replace ho5:IsPair h5 to x y:=ho5
 refine wpAny_bind (wpAny_letGo (wpAny_pure (wpAny_pure ?_)))
 refine wpAny_bind (wpAny_seqItems ho5 rfl ?_)
 refine wpAny_bind (wpAny_newTuple ?_)
 have hsz:h5.objs.size=s.heap.objs.size:=by rw [hs5.1,hs4.1,hs3.1,hs2.1,hs1.1]
 have hz5:IsZ h5 z ti to .ellipsis g1:=hs5.extBut _ _ ap.toz.symm (hs4.extBut _ _ ap.i2z.symm (hs3.extBut _ _ ap.toz.symm (hs2.extBut _ _ ap.i1z.symm hz1)))
 have hk5:∀c o,c≠z->c≠to->c≠i1->c≠i2->s.heap.get? c=some o->h5.get? c=some o:=λc o c1 c2 c3 c4 e =>
  hs5.extBut _ _ c2 (hs4.extBut _ _ c4 (hs3.extBut _ _ c2 (hs2.extBut _ _ c3 (hs1.extBut _ _ c1 e))))
 have st15:St1 (k+1) h5:=D1.frame _ _ _ st12 λc hc o e=>hs5.extBut _ _ (λq=>ap.o1 (q ▸ hc)) (hs4.extBut _ _ (λq=>ap.x1 (q ▸ hc)) (hs3.extBut _ _ (λq=>ap.o1 (q ▸ hc)) e))
 have st25:St2 (k+1) h5:=D2.frame _ _ _ st24 λc hc o e=>hs5.extBut _ _ (λq=>ap.o2 (q ▸ hc)) e
 have hzlt:z < h5.objs.size:=Heap.lt_size hz5
 show wpAny _ _ (Builtin.SmallTypes.ownedTupleHandOut (.ref z) (.ref h5.objs.size) >>= _) _ _ _
 refine wpAny_bind ?_
 unfold Builtin.SmallTypes.ownedTupleHandOut
 have hz6:IsZ (h5.push { cls:=.type "tuple",data:=.seq #[x,y] }) z ti to .ellipsis g1:=Heap.get?_push_of_some _ hz5
 refine wpAny_bind (wpAny_setField_rec hz6 (by simp) λh7 hz7 hs7=>?_)
 replace hz7:IsZ h7 z ti to (rawInt h5.objs.size) g1:=hz7
 refine wpAny_setField_rec hz7 (by simp) λh8 hz8 hs8=>?_
 replace hz8:IsZ h8 z ti to (rawInt h5.objs.size) (.bool false):=hz8
 have up:∀c o,c≠z->h5.get? c=some o->h8.get? c=some o:=λc o c1 e=>hs8.extBut _ _ c1 (hs7.extBut _ _ c1 (Heap.get?_push_of_some _ e))
 have hT8:IsPair h8 h5.objs.size x y:=hs8.extBut _ _ (Nat.ne_of_gt hzlt) (hs7.extBut _ _ (Nat.ne_of_gt hzlt) (Heap.get?_push_size _ rfl))
 rw [hsz] at hz8 hT8
 refine wpAny_pure ⟨_,rfl,?_⟩
 show Q (.ref h5.objs.size) _
 rw [hsz]
 exact hQ x y h8 tk4 px py hz8 (up _ _ ap.toz ho5) (fr1 up st15) (fr2 up st25) hT8 λc o c1 c2 c3 c4 e=>up c o c1 (hk5 c o c1 c2 c3 c4 e)
theorem alive {c:Addr}{o:Obj}{Q:Option Obj->Shared->Prop}(ho:s.heap.get? c=some o)(h:Q (some o) s):wpAny (model prog w) A (loadIfAlive c) Q E s:=λzw zw zw=>(show Q (s.heap.get? c) s from ho ▸ h)
theorem xZ {Q:Bool->Shared->Prop}{T:Addr}{g1:Value}(hz:IsZ s.heap z ti to (rawInt T) g1)(hg:g1=.bool true\/g1=.bool false)(hT:∃o,s.heap.get? T=some o)
  (q:∀h1,IsZ h1 z ti to (rawInt T) (.bool true)->Heap.SameBut z s.heap h1->Q false { s with heap:=h1 }):wpAny (model prog w) A (Builtin.SmallTypes.ownedTupleIsFree (.ref z)) Q E s:=by
 unfold Builtin.SmallTypes.ownedTupleIsFree
 refine wpAny_bind (wpAny_field hz rfl (x:=rawInt T) rfl ?_)
 obtain⟨oT,hT⟩:=hT
 show wpAny _ _ (loadIfAlive (T:Int).toNat >>= _) _ _ _
 refine wpAny_bind (alive hT ?_)
 simp only [Option.isNone_some,Bool.false_eq_true,if_false]
 refine wpAny_bind (wpAny_field hz rfl (x:=g1) rfl ?_)
 rcases hg with rfl | rfl
 ·rw [if_neg (show ¬((Value.bool true != Value.bool true)=true) from Bool.false_ne_true)]
  exact wpAny_pure (q _ hz ⟨rfl,λzw zw=>rfl⟩)
 ·rw [if_pos (show(Value.bool false != Value.bool true)=true from rfl)]
  exact wpAny_bind (wpAny_setField_rec hz (by simp) λh1 hz1 hs1=>wpAny_pure (q _ hz1 hs1))
theorem zipB {T:Addr}{g1:Value}(D1:Draws prog w A i1 f1 n1 P1 St1)(D2:Draws prog w A i2 f2 n2 P2 St2)(ap:ZAp z ti to i1 i2 f1 f2)
  (hz:IsZ s.heap z ti to (rawInt T) g1) (hg:g1=.bool true\/g1=.bool false) (hT:∃o,s.heap.get? T=some o) (ht:IsPair s.heap ti (.ref i1) (.ref i2)) (s1:St1 k s.heap) (s2:St2 k s.heap) (l1:k < n1) (l2:k < n2)
  (hQ:∀x y h' tk,P1 k x->P2 k y->IsZ h' z ti to (rawInt T) (.bool true)->St1 (k+1) h'->St2 (k+1) h'->IsPair h' s.heap.objs.size x y →
   (∀c o,c≠z->c≠i1->c≠i2->s.heap.get? c=some o->h'.get? c=some o)->Q (.ref s.heap.objs.size) { s with heap:=h',toks:=tk }) :
  wpAny (model prog w) A (Builtin.«zip.__next__» ⟨[.ref z],[]⟩) (λfin s'=>∃v,fin=.done (.ret v)/\Q v s') E s:=by
 show wpAny _ _ (field (.ref z) 2 >>= _) _ _ _
 refine wpAny_bind (wpAny_field hz rfl (x:=.bool false) rfl ?_)
 show wpAny _ _ (field (.ref z) 3 >>= _) _ _ _
 refine wpAny_bind (wpAny_field hz rfl (x:=.ref ti) rfl ?_)
 refine wpAny_bind (wpAny_seqItems ht rfl ?_)
 show wpAny _ _ (Builtin.SmallTypes.ownedTupleIsFree (.ref z) >>= _) _ _ _
 refine wpAny_bind (xZ hz hg hT λh1 hz1 hs1=>?_)
 have fr1:∀{h h':Heap},(∀c o,c≠z->h.get? c=some o->h'.get? c=some o)->∀{j},St1 j h->St1 j h':=λ{_ _} kk {_} st=>D1.frame _ _ _ st λc hc o e=>kk c o (λq=>ap.z1 (q ▸ hc)) e
 have fr2:∀{h h':Heap},(∀c o,c≠z->h.get? c=some o->h'.get? c=some o)->∀{j},St2 j h->St2 j h':=λ{_ _} kk {_} st=>D2.frame _ _ _ st λc hc o e=>kk c o (λq=>ap.z2 (q ▸ hc)) e
 simp only [Bool.false_eq_true,if_false,<- Array.forIn_toList,List.forIn_cons,List.forIn_nil]
 refine wpAny_bind (wpAny_bind (wpAny_bind (wpAny_holding ?_)))
 show wpAny _ _ (Builtin.SmallTypes.nextOf (.ref i1) >>= _) _ _ _
 refine wpAny_bind (D1.item k _ _ _ l1 (fr1 hs1.extBut s1) λx h2 tk2 px st12 hs2=>wpAny_pure (wpAny_pure ?_))
 refine wpAny_bind (wpAny_bind (wpAny_holding ?_))
 show wpAny _ _ (Builtin.SmallTypes.nextOf (.ref i2) >>= _) _ _ _
 have s22:St2 k h2:=D2.frame _ _ _ (fr2 hs1.extBut s2) λc hc o e=>hs2.extBut _ _ (λq=>ap.x2 (q ▸ hc)) e
 refine wpAny_bind (D2.item k _ _ _ l2 s22 λy h3 tk3 py st23 hs3=>wpAny_pure (wpAny_pure (wpAny_pure ?_)))
 show wpAny _ _ (newTuple [x,y] >>= _) _ _ _
 refine wpAny_bind (wpAny_newTuple ?_)
 have hsz:h3.objs.size=s.heap.objs.size:=by rw [hs3.1,hs2.1,hs1.1]
 have up:∀c o,h3.get? c=some o->(h3.push { cls:=.type "tuple",data:=.seq #[x,y] }).get? c=some o:=λc o e=>Heap.get?_push_of_some _ e
 have hz3:IsZ h3 z ti to (rawInt T) (.bool true):=hs3.extBut _ _ ap.i2z.symm (hs2.extBut _ _ ap.i1z.symm hz1)
 have st13:St1 (k+1) h3:=D1.frame _ _ _ st12 λc hc o e=>hs3.extBut _ _ (λq=>ap.x1 (q ▸ hc)) e
 have hT3:IsPair (h3.push { cls:=.type "tuple",data:=.seq #[x,y] }) h3.objs.size x y:=Heap.get?_push_size _ rfl
 rw [hsz] at hT3
 refine wpAny_pure ⟨_,rfl,?_⟩
 show Q (.ref h3.objs.size) _
 rw [hsz]
 exact hQ x y _ tk3 px py (up _ _ hz3) (fr1 (λc o zw e=>up c o e) st13) (fr2 (λc o zw e=>up c o e) st23) hT3 λc o c1 c2 c3 e=>up c o (hs3.extBut _ _ c3 (hs2.extBut _ _ c2 (hs1.extBut _ _ c1 e)))
theorem wE {Q:Fin->Shared->Prop}{f0 g1:Value}(D1:Draws prog w A i1 f1 n1 P1 St1)(D2:Draws prog w A i2 f2 n2 P2 St2)(ap:ZAp z ti to i1 i2 f1 f2)
  (hz:IsZ s.heap z ti to f0 g1) (hf:ZFree s.heap f0) (ht:IsPair s.heap ti (.ref i1) (.ref i2)) (ho:IsPair s.heap to a b) (s1:St1 k s.heap) (s2:St2 k s.heap) (l:k=n1\/k < n1/\k=n2)
  (hE:∀h' tk e,(∀c o,c≠z->c≠to->c≠i1->c≠i2->s.heap.get? c=some o->h'.get? c=some o)->(∃o,h'.get? e=some o/\o.cls=.type "StopIteration")->E (.ref e) { s with heap:=h',toks:=tk }) :
  wpAny (model prog w) A (Builtin.«zip.__next__» ⟨[.ref z],[]⟩) Q E s:=by
 show wpAny _ _ (field (.ref z) 2 >>= _) _ _ _
 refine wpAny_bind (wpAny_field hz rfl (x:=.bool false) rfl ?_)
 show wpAny _ _ (field (.ref z) 3 >>= _) _ _ _
 refine wpAny_bind (wpAny_field hz rfl (x:=.ref ti) rfl ?_)
 refine wpAny_bind (wpAny_seqItems ht rfl ?_)
 show wpAny _ _ (Builtin.SmallTypes.ownedTupleIsFree (.ref z) >>= _) _ _ _
 refine wpAny_bind (isFree hz hf ?_)
 simp only [if_true]
 refine wpAny_bind (wpAny_rule ?_)
 refine wpAny_bind (wpAny_field hz rfl (x:=.ref to) rfl ?_)
 refine wpAny_bind (wpAny_setField_rec hz (by simp) λh1 hz1 hs1=>?_)
 replace hz1:IsZ h1 z ti to .ellipsis g1:=hz1
 refine wpAny_bind ?_
 simp only [List.zipIdx_cons,List.zipIdx_nil,List.forIn_cons,List.forIn_nil]
 have fr1:∀{h h':Heap},(∀c o,c≠z->h.get? c=some o->h'.get? c=some o)->∀{j},St1 j h->St1 j h':=λ{_ _} kk {_} st=>D1.frame _ _ _ st λc hc o e=>kk c o (λq=>ap.z1 (q ▸ hc)) e
 have fr2:∀{h h':Heap},(∀c o,c≠z->h.get? c=some o->h'.get? c=some o)->∀{j},St2 j h->St2 j h':=λ{_ _} kk {_} st=>D2.frame _ _ _ st λc hc o e=>kk c o (λq=>ap.z2 (q ▸ hc)) e
 refine wpAny_bind (wpAny_bind (wpAny_onRaise ?_))
 show wpAny _ _ (Builtin.SmallTypes.nextOf (.ref i1) >>= _) _ _ _
 rcases l with rfl | ⟨l1,rfl⟩
 ·refine wpAny_bind (D1.done _ _ _ (fr1 hs1.extBut s1) λh2 e hs2 he=>?_)
  obtain⟨oe,hoe,hce⟩:=he
  have hz2:IsZ h2 z ti to .ellipsis g1:=hs2 _ _ ap.i1z.symm hz1
  have hez:e≠z:=λx=>by subst x; rw [hz2] at hoe; cases hoe; simp at hce
  exact wpAny_setField_rec hz2 (by simp) λh3 zw hs3=>hE h3 s.toks e (λc o c1 zw c3 zw x=>hs3.extBut _ _ c1 (hs2 _ _ c3 (hs1.extBut _ _ c1 x))) ⟨oe,hs3.extBut _ _ hez hoe,hce⟩
 ·refine wpAny_bind (D1.item _ _ _ _ l1 (fr1 hs1.extBut s1) λx h2 tk2 px st12 hs2=>wpAny_pure ?_)
  have ho2:IsPair h2 to a b:=hs2.extBut _ _ ap.toi1 (hs1.extBut _ _ ap.toz ho)
  refine wpAny_bind (wpAny_seqItems ho2 rfl ?_)
  refine wpAny_bind (wpAny_updateSeq_pair ho2 λh3 ho3 hs3=>?_)
  refine wpAny_bind (wpAny_letGo (wpAny_pure ?_))
  refine wpAny_bind (wpAny_bind (wpAny_onRaise ?_))
  show wpAny _ _ (Builtin.SmallTypes.nextOf (.ref i2) >>= _) _ _ _
  have s23:=D2.frame _ _ _ (fr2 hs1.extBut s2) λc hc o e=>hs3.extBut _ _ (λq=>ap.o2 (q ▸ hc)) (hs2.extBut _ _ (λq=>ap.x2 (q ▸ hc)) e)
  refine wpAny_bind (D2.done _ _ _ s23 λh4 e hs4 he=>?_)
  obtain⟨oe,hoe,hce⟩:=he
  have hz4:IsZ h4 z ti to .ellipsis g1:=hs4 _ _ ap.i2z.symm (hs3.extBut _ _ ap.toz.symm (hs2.extBut _ _ ap.i1z.symm hz1))
  have hez:e≠z:=λx=>by subst x; rw [hz4] at hoe; cases hoe; simp at hce
  exact wpAny_setField_rec hz4 (by simp) λh5 zw hs5=>hE h5 tk2 e (λc o c1 c2 c3 c4 x=>hs5.extBut _ _ c1 (hs4 _ _ c4 (hs3.extBut _ _ c2 (hs2.extBut _ _ c3 (hs1.extBut _ _ c1 x))))) ⟨oe,hs5.extBut _ _ hez hoe,hce⟩
theorem zipEndB {Q:Fin->Shared->Prop}{T:Addr}{g1:Value}(D1:Draws prog w A i1 f1 n1 P1 St1)(D2:Draws prog w A i2 f2 n2 P2 St2)(ap:ZAp z ti to i1 i2 f1 f2)
  (hz:IsZ s.heap z ti to (rawInt T) g1) (hg:g1=.bool true\/g1=.bool false) (hT:∃o,s.heap.get? T=some o) (ht:IsPair s.heap ti (.ref i1) (.ref i2)) (s1:St1 k s.heap) (s2:St2 k s.heap) (l:k=n1\/k < n1/\k=n2)
  (hE:∀h' tk e,(∀c o,c≠z->c≠i1->c≠i2->s.heap.get? c=some o->h'.get? c=some o)->(∃o,h'.get? e=some o/\o.cls=.type "StopIteration")->E (.ref e) { s with heap:=h',toks:=tk }) :
  wpAny (model prog w) A (Builtin.«zip.__next__» ⟨[.ref z],[]⟩) Q E s:=by
 show wpAny _ _ (field (.ref z) 2 >>= _) _ _ _
 refine wpAny_bind (wpAny_field hz rfl (x:=.bool false) rfl ?_)
 show wpAny _ _ (field (.ref z) 3 >>= _) _ _ _
 refine wpAny_bind (wpAny_field hz rfl (x:=.ref ti) rfl ?_)
 refine wpAny_bind (wpAny_seqItems ht rfl ?_)
 show wpAny _ _ (Builtin.SmallTypes.ownedTupleIsFree (.ref z) >>= _) _ _ _
 refine wpAny_bind (xZ hz hg hT λh1 hz1 hs1=>?_)
 have fr1:∀{h h':Heap},(∀c o,c≠z->h.get? c=some o->h'.get? c=some o)->∀{j},St1 j h->St1 j h':=λ{_ _} kk {_} st=>D1.frame _ _ _ st λc hc o e=>kk c o (λq=>ap.z1 (q ▸ hc)) e
 have fr2:∀{h h':Heap},(∀c o,c≠z->h.get? c=some o->h'.get? c=some o)->∀{j},St2 j h->St2 j h':=λ{_ _} kk {_} st=>D2.frame _ _ _ st λc hc o e=>kk c o (λq=>ap.z2 (q ▸ hc)) e
 simp only [Bool.false_eq_true,if_false,<- Array.forIn_toList,List.forIn_cons,List.forIn_nil]
 refine wpAny_bind (wpAny_bind (wpAny_bind (wpAny_holding ?_)))
 show wpAny _ _ (Builtin.SmallTypes.nextOf (.ref i1) >>= _) _ _ _
 rcases l with rfl | ⟨l1,rfl⟩
 ·exact wpAny_bind (D1.done _ _ _ (fr1 hs1.extBut s1) λh2 e hs2 he=>hE h2 s.toks e (λc o c1 c3 zw x=>hs2 _ _ c3 (hs1.extBut _ _ c1 x)) he)
 ·refine wpAny_bind (D1.item _ _ _ _ l1 (fr1 hs1.extBut s1) λx h2 tk2 px st12 hs2=>wpAny_pure (wpAny_pure ?_))
  refine wpAny_bind (wpAny_bind (wpAny_holding ?_))
  show wpAny _ _ (Builtin.SmallTypes.nextOf (.ref i2) >>= _) _ _ _
  have s22:=D2.frame _ _ _ (fr2 hs1.extBut s2) λc hc o e=>hs2.extBut _ _ (λq=>ap.x2 (q ▸ hc)) e
  exact wpAny_bind (D2.done _ _ _ s22 λh3 e hs3 he=>hE h3 tk2 e (λc o c1 c3 c4 x=>hs3 _ _ c4 (hs2.extBut _ _ c3 (hs1.extBut _ _ c1 x))) he)
noncomputable def ZMark (f0 g1:Value):Prop:=(f0=.none\/∃T:Addr,f0=rawInt T)/\(g1=.bool true\/g1=.bool false)
theorem uI {Q:Option Value->Shared->Prop}{f0 g1:Value}(D1:Draws prog w A.in1 i1 f1 n1 P1 St1)(D2:Draws prog w A.in1 i2 f2 n2 P2 St2)(ap:ZAp z ti to i1 i2 f1 f2)
  (hz:IsZ s.heap z ti to f0 g1) (hm:ZMark f0 g1) (ht:IsPair s.heap ti (.ref i1) (.ref i2)) (ho:IsPair s.heap to a b) (s1:St1 k s.heap) (s2:St2 k s.heap) (l1:k < n1) (l2:k < n2)
  (hQ:∀x y h' tk f0' g',P1 k x->P2 k y->IsZ h' z ti to f0' g'->ZMark f0' g'->(f0=.none->f0'=rawInt s.heap.objs.size/\g'=.bool false)->(∃a b,IsPair h' to a b)->St1 (k+1) h'->St2 (k+1) h'->IsPair h' s.heap.objs.size x y →
   (∀c o,c≠z->c≠to->c≠i1->c≠i2->s.heap.get? c=some o->h'.get? c=some o)->Q (some (.ref s.heap.objs.size)) { s with heap:=h',toks:=tk }) :
  wpAny (model prog w) A (pyNext (.ref z)) Q E s:=by
 have hT:s.TypeIs (.ref z) "zip":=⟨_,hz,rfl⟩
 unfold pyNext
 refine wpAny_bind (wpAny_attempt (wpAny_callSpecial?_slot (name:=Str.ofString "__next__") hT F.slot_zip_next (wpAny_call_entry F.slot_zip_next hT F.entry_zip_next ?_ (F.args_zip_next_1 _))))
 rcases hm.1 with h0 | ⟨T,h0⟩
 ·exact zipA D1 D2 ap hz (.inl h0) ht ho s1 s2 l1 l2 λx y h' tk p1 p2 z1 o1 t1 t2 n up=>wpAny_pure (hQ x y h' tk _ _ p1 p2 z1 ⟨.inr ⟨_,rfl⟩,.inr rfl⟩ (λzw=>⟨rfl,rfl⟩) ⟨_,_,o1⟩ t1 t2 n up)
 ·cases e:s.heap.get? T with
  | none=>exact zipA D1 D2 ap hz (.inr ⟨T,h0,e⟩) ht ho s1 s2 l1 l2 λx y h' tk p1 p2 z1 o1 t1 t2 n up=>wpAny_pure (hQ x y h' tk _ _ p1 p2 z1 ⟨.inr ⟨_,rfl⟩,.inr rfl⟩ (λzw=>⟨rfl,rfl⟩) ⟨_,_,o1⟩ t1 t2 n up)
  | some o =>
   subst h0
   exact zipB D1 D2 ap hz hm.2 ⟨o,e⟩ ht s1 s2 l1 l2 λx y h' tk p1 p2 z1 t1 t2 n up=>wpAny_pure (hQ x y h' tk _ _ p1 p2 z1 ⟨.inr ⟨_,rfl⟩,.inl rfl⟩ (λz=>by cases z) ⟨a,b,up _ _ ap.toz ap.toi1 ap.toi2 ho⟩ t1 t2 n λc o c1 zw c3 c4 e=>up c o c1 c3 c4 e)
theorem lU {Q:Option Value->Shared->Prop}{f0 g1:Value}(D1:Draws prog w A.in1 i1 f1 n1 P1 St1)(D2:Draws prog w A.in1 i2 f2 n2 P2 St2)(ap:ZAp z ti to i1 i2 f1 f2)
  (hz:IsZ s.heap z ti to f0 g1) (hm:ZMark f0 g1) (ht:IsPair s.heap ti (.ref i1) (.ref i2)) (ho:IsPair s.heap to a b) (s1:St1 k s.heap) (s2:St2 k s.heap) (l:k=n1\/k < n1/\k=n2)
  (hQ:∀h' tk,(∀c o,c≠z->c≠to->c≠i1->c≠i2->s.heap.get? c=some o->h'.get? c=some o)->Q none { s with heap:=h',toks:=tk }):wpAny (model prog w) A (pyNext (.ref z)) Q E s:=by
 have hT:s.TypeIs (.ref z) "zip":=⟨_,hz,rfl⟩
 unfold pyNext
 refine wpAny_bind (wpAny_attempt (wpAny_callSpecial?_slot (name:=Str.ofString "__next__") hT F.slot_zip_next (wpAny_call_entry F.slot_zip_next hT F.entry_zip_next ?_ (F.args_zip_next_1 _))))
 rcases hm.1 with h0 | ⟨T,h0⟩
 ·exact wE D1 D2 ap hz (.inl h0) ht ho s1 s2 l λh' tk e up he=>he.elim λo h=>wpAny_bind (wpAny_isInstance (T:="StopIteration") (b:=true) ⟨o,h.1,h.2⟩ isSubtype_stop (wpAny_pure (hQ h' tk up)))
 ·cases e:s.heap.get? T with
  | none=>exact wE D1 D2 ap hz (.inr ⟨T,h0,e⟩) ht ho s1 s2 l λh' tk e up he=>he.elim λo h=>wpAny_bind (wpAny_isInstance (T:="StopIteration") (b:=true) ⟨o,h.1,h.2⟩ isSubtype_stop (wpAny_pure (hQ h' tk up)))
  | some o =>
   subst h0
   exact zipEndB D1 D2 ap hz hm.2 ⟨o,e⟩ ht s1 s2 l λh' tk e up he=>he.elim λo h=>wpAny_bind (wpAny_isInstance (T:="StopIteration") (b:=true) ⟨o,h.1,h.2⟩ isSubtype_stop (wpAny_pure (hQ h' tk λc o c1 zw c3 c4 x=>up c o c1 c3 c4 x)))
end
end
structure Src (g:Glob) (A:Around) (it:Addr) (fp:List Addr) (ds:List D) (O M W:Avoid) (sa s_1:Shared) (P:Nat->Value->Prop) (St:Nat->Heap->Prop):Prop where
 dr:Draws g.prog g.w A.in1 it fp ds.length P St
 start:St 0 s_1.heap
 off:∀b∈fp,¬O b/\¬M b/\∃o,s_1.heap.get? b=some o
 fs:∀i h,St i h->∃o,h.get? it=some o/\isFS o=true
 rd:∀(O' M':Avoid) (h:Heap) (i:Nat) (v:Value) (d:D),Wid O W O' s_1->Wid M W M' s_1->Agree O M sa h->P i v->ds[i]?=some d->Rd O' M' h 0 v d
section
noncomputable def ZW (z to i1 i2:Addr):Avoid:=λc=>c=z\/c=to\/c=i1\/c=i2
theorem itr_zipD {tt:Bool}{sa s_1:Shared}{z ti to i1 i2:Addr}{f1 f2:List Addr}{es:List D}{P1 P2:Nat->Value->Prop}{St1 St2:Nat->Heap->Prop}(k0:Keeps s sa)(k1:Keeps sa s_1)(aOa:Alloc O sa)(aM:Alloc M sa)
  (le:∀c,ZW z to i1 i2 c->@LE.le Nat _ sa.heap.objs.size c) (lt:@LE.le Nat _ sa.heap.objs.size ti) (ap:ZAp z ti to i1 i2 f1 f2)
  (S1:Src g A i1 f1 ds O M (ZW z to i1 i2) sa s_1 P1 St1) (S2:Src g A i2 f2 es O M (ZW z to i1 i2) sa s_1 P2 St2) (hz:IsZ s_1.heap z ti to .none (.bool false)) (hTI:IsPair s_1.heap ti (.ref i1) (.ref i2)) (hTO:IsPair s_1.heap to .none .none) :
  Itr g A tt (.ref z) (zipL ds es) O M (ZW z to i1 i2) s s_1 (λi h=>(∃f0 g1,IsZ h z ti to f0 g1/\ZMark f0 g1/\(tt=true->f0=.none/\g1=.bool false))/\IsPair h ti (.ref i1) (.ref i2)/\(∃x y,IsPair h to x y)/\St1 i h/\St2 i h/\Agree O M sa h):=by
 have nO:∀c,@LE.le Nat _ sa.heap.objs.size c->¬O c:=λc hc z=>by obtain⟨o,e⟩:=aOa _ z; exact absurd (Heap.lt_size e) (Nat.not_lt.mpr hc)
 have nM:∀c,@LE.le Nat _ sa.heap.objs.size c->¬M c:=λc hc z=>by obtain⟨o,e⟩:=aM _ z; exact absurd (Heap.lt_size e) (Nat.not_lt.mpr hc)
 have wz:ZW z to i1 i2 z:=.inl rfl
 have wto:ZW z to i1 i2 to:=.inr (.inl rfl)
 have wi1:ZW z to i1 i2 i1:=.inr (.inr (.inl rfl))
 have wi2:ZW z to i1 i2 i2:=.inr (.inr (.inr rfl))
 have ne:∀{c o},sa.heap.get? c=some o->¬ZW z to i1 i2 c:=λe w=>absurd (Heap.lt_size e) (Nat.not_lt.mpr (le _ w))
 refine⟨⟨⟨_,_,hz,⟨.inl rfl,.inr rfl⟩,λzw=>⟨rfl,rfl⟩⟩,hTI,⟨_,_,hTO⟩,S1.start,S2.start,Agree.refl k1⟩,λc hc=>⟨cJ k0 (le c hc),by
   rcases hc with rfl | rfl | rfl | rfl
   ·exact⟨_,hz⟩
   ·exact⟨_,hTO⟩
   ·exact(S1.fs _ _ S1.start).elim λo h=>⟨o,h.1⟩
   ·exact(S2.fs _ _ S2.start).elim λo h=>⟨o,h.1⟩⟩,?_,?_,?_,?_,?_⟩
 ·intro i h hJ b hb
  obtain⟨⟨f0,g1,z1,_⟩,z2,⟨x,y,z3⟩,z4,z5,_⟩:=hJ
  rcases hb with rfl | rfl | rfl | rfl
  ·exact⟨_,z1,rfl⟩
  ·exact⟨_,z3,rfl⟩
  ·exact S1.fs _ _ z4
  ·exact S2.fs _ _ z5
 ·intro i h h' hJ hk
  obtain⟨⟨f0,g1,z1,zm⟩,z2,⟨x,y,z3⟩,z4,z5,ag⟩:=hJ
  exact⟨⟨f0,g1,hk _ _ (nO _ (le _ wz)) (nM _ (le _ wz)) ⟨_,hz⟩ z1,zm⟩,hk _ _ (nO _ lt) (nM _ lt) ⟨_,hTI⟩ z2,⟨x,y,hk _ _ (nO _ (le _ wto)) (nM _ (le _ wto)) ⟨_,hTO⟩ z3⟩,
   S1.dr.frame _ _ _ z4 λb hb o e=>hk b o (S1.off b hb).1 (S1.off b hb).2.1 (S1.off b hb).2.2 e,S2.dr.frame _ _ _ z5 λb hb o e=>hk b o (S2.off b hb).1 (S2.off b hb).2.1 (S2.off b hb).2.2 e,λc ws us n ho hb e=>hk _ _ ho hb ⟨_,aA k1 _ _ e⟩ (ag c ws us n ho hb e)⟩
 ·intro O' M' i d t target E Q wd' wd htg hd hJ0 aO aM' q
  ((show let Q0:=_; wpAny _ _ _ Q0 _ _); intro Q0)
  obtain⟨⟨f0,g1,z1,zm,zt⟩,z2,⟨x0,y0,z3⟩,z4,z5,ag⟩:=hJ0
  obtain⟨x,y,hx,hy,rfl⟩:=zipL_get hd
  refine uI S1.dr S2.dr ap z1 zm z2 z3 z4 z5 (List.getElem?_eq_some_iff.mp hx).1 (List.getElem?_eq_some_iff.mp hy).1 λv v' h' tk f0' g' p1 p2 z1' zm' zn o' t1 t2 np up=>⟨_,rfl,?_⟩
  have up':∀c o,¬ZW z to i1 i2 c->t.heap.get? c=some o->h'.get? c=some o:=λc o hc e=>up c o (λq=>hc (.inl q)) (λq=>hc (.inr (.inl q))) (λq=>hc (.inr (.inr (.inl q)))) (λq=>hc (.inr (.inr (.inr q)))) e
  have ag':Agree O M sa h':=λc ws us n ho hb e=>up' c _ (ne e) (ag c ws us n ho hb e)
  have z2':=up _ _ ap.tiz ap.tito ap.tii1 ap.tii2 z2
  have ltz:@LT.lt Nat _ z t.heap.objs.size:=Heap.lt_size z1
  cases tt with
  | false =>
   exact cC htg (q _ _ ⟨⟨_,_,rfl⟩,up'⟩ (.tup aO.new (λzw=>aM'.new) (by show 2<=cap; decide) np (.cons (S1.rd _ _ _ _ _ _ wd' wd ag' p1 hx) (.cons (S2.rd _ _ _ _ _ _ wd' wd ag' p2 hy) .nil))) ⟨⟨f0',g',z1',zm',λe=>by cases e⟩,z2',o',t1,t2,ag'⟩)
  | true =>
   obtain⟨es',k',p,rfl⟩:=htg
   obtain⟨e0,_⟩:=zt rfl
   obtain⟨rfl,rfl⟩:=zn e0
   refine wpAny_letOwnedTupleGo_zip z1' λh'' hz'' hs''=>?_
   have ag'':Agree O M sa h'':=λc ws us n ho hb e=>hs''.extBut c _ (λq=>ne e (.inl q)) (ag' c ws us n ho hb e)
   exact q _ _ ⟨⟨_,_,rfl⟩,λc o hc e=>hs''.extBut c o (λq=>hc (.inl q)) (up' c o hc e)⟩ (.tup aO.new (λzw=>aM'.new) (by show 2<=cap; decide) (hs''.extBut _ _ (Nat.ne_of_gt ltz) np) (.cons (S1.rd _ _ _ _ _ _ wd' wd ag'' p1 hx) (.cons (S2.rd _ _ _ _ _ _ wd' wd ag'' p2 hy) .nil)))
    ⟨⟨_,_,hz'',⟨.inl rfl,.inr rfl⟩,λzw=>⟨rfl,rfl⟩⟩,hs''.extBut _ _ ap.tiz z2',o'.elim λx h=>h.elim λy h=>⟨x,y,hs''.extBut _ _ ap.toz h⟩,S1.dr.frame _ _ _ t1 λc hc o e=>hs''.extBut _ _ (λq=>ap.z1 (q ▸ hc)) e,S2.dr.frame _ _ _ t2 λc hc o e=>hs''.extBut _ _ (λq=>ap.z2 (q ▸ hc)) e,ag''⟩
 ·intro t E Q hJ0 q
  ((show let Q0:=_; wpAny _ _ _ Q0 _ _); intro Q0)
  obtain⟨⟨f0,g1,z1,zm,zt⟩,z2,⟨x0,y0,z3⟩,z4,z5,ag⟩:=hJ0
  have hl:(zipL ds es).length=min ds.length es.length:=by simp [zipL]
  rw [hl] at z4 z5
  refine lU S1.dr S2.dr ap z1 zm z2 z3 z4 z5 ?_ λh' tk up=>q _ ⟨⟨_,_,rfl⟩,λc o hc e=>up c o (λq=>hc (.inl q)) (λq=>hc (.inr (.inl q))) (λq=>hc (.inr (.inr (.inl q)))) (λq=>hc (.inr (.inr (.inr q)))) e⟩
  rcases Nat.lt_or_ge es.length ds.length with h | h
  ·exact .inr ⟨by rw [Nat.min_eq_right (Nat.le_of_lt h)]; exact h,Nat.min_eq_right (Nat.le_of_lt h)⟩
  ·exact .inl (Nat.min_eq_left h)
 ·intro t E Q hJ0 q
  obtain⟨⟨f0,g1,z1,_⟩,_⟩:=hJ0
  have hT:t.TypeIs (.ref z) "zip":=⟨_,z1,rfl⟩
  refine wpAny_pyIter_slot hT F.slot_zip_iter (wpAny_call_entry F.slot_zip_iter hT F.entry_zip_iter ?_ (F.args_zip_iter_1 _))
  show wpAny _ _ (ret (.ref z)) _ _ t
  exact wpAny_pure ⟨_,rfl,"zip",_,hT,F.slot_zip_next.lookup,q⟩
end
section
structure Makes (v:Value) (o:Obj) (C:Heap->Prop):Prop where
 fr:o.isFreed=false
 push:∀h o',C h->C (h.push o')
 it:∀{prog:Program} {w:World} {A:Around} {E:Value->Shared->Prop} {s:Shared} {Q:Value->Shared->Prop},C s.heap->Q (.ref s.heap.objs.size) { s with heap:=s.heap.push o }->wpAny (model prog w) A (pyIter v) Q E s
noncomputable def zH2 (h:Heap) (o1 o2:Obj):Heap:=(h.push o1).push o2
noncomputable def zH3 (h:Heap) (o1 o2:Obj):Heap:=(zH2 h o1 o2).push { cls:=.type "tuple",data:=.seq #[.ref h.objs.size,.ref (h.push o1).objs.size] }
noncomputable def zH4 (h:Heap) (o1 o2:Obj):Heap:=(zH3 h o1 o2).push { cls:=.type "tuple",data:=.seq #[.none,.none] }
noncomputable def zH5 (h:Heap) (o1 o2:Obj):Heap:=(zH4 h o1 o2).push { cls:=.type "zip",data:=.fields #[.none,.bool false,.bool false,.ref (zH2 h o1 o2).objs.size,.ref (zH3 h o1 o2).objs.size] }
theorem zipNew {v1 v2:Value}{o1 o2:Obj}{C1 C2:Heap->Prop}(m1:Makes v1 o1 C1)(m2:Makes v2 o2 C2) :
  Meets (Builtin.«zip.__new__» ⟨[.type "zip",v1,v2],[]⟩) (λzw R s=>C1 s.heap/\C2 s.heap/\R (.ok (.ret (.ref (zH4 s.heap o1 o2).objs.size))) { s with heap:=zH5 s.heap o1 o2 }) :=
 .of_wp λprog w A R s h=>by
  obtain⟨hp,g,d,tk,os⟩:=s; obtain⟨c1,c2,h⟩:=h
  have hsub:=sub_zip
  have c2':C2 (Shared.heap ⟨hp.push o1,g,d,tk,os⟩):=m2.push _ _ c2
  have r1:∀{A:Around} {E:Value->Shared->Prop} {Q:Value->Shared->Prop},Q (.ref hp.objs.size) ⟨hp.push o1,g,d,tk,os⟩->wpAny (model prog w) A (pyIter v1) Q E ⟨hp,g,d,tk,os⟩:=λq=>m1.it (s:=⟨hp,g,d,tk,os⟩) c1 q
  have r2:∀{A:Around} {E:Value->Shared->Prop} {Q:Value->Shared->Prop},Q (.ref (hp.push o1).objs.size) ⟨(hp.push o1).push o2,g,d,tk,os⟩->wpAny (model prog w) A (pyIter v2) Q E ⟨hp.push o1,g,d,tk,os⟩:=λq=>m2.it (s:=⟨hp.push o1,g,d,tk,os⟩) c2' q
  wp_walk using r1,r2
  exact⟨_,rfl,h⟩
section
variable {prog:Program} {w:World}
theorem callZip {v1 v2:Value}{o1 o2:Obj}{C1 C2:Heap->Prop}(m1:Makes v1 o1 C1)(m2:Makes v2 o2 C2)(c1:C1 s.heap)(c2:C2 s.heap)
  (h:∀h',IsZ h' (s.heap.objs.size+4) (s.heap.objs.size+2) (s.heap.objs.size+3) .none (.bool false)->IsPair h' (s.heap.objs.size+2) (.ref s.heap.objs.size) (.ref (s.heap.objs.size+1)) →
   IsPair h' (s.heap.objs.size+3) .none .none->h'.get? s.heap.objs.size=some o1->h'.get? (s.heap.objs.size+1)=some o2->(∀c o,s.heap.get? c=some o->h'.get? c=some o)->Q (.ref (s.heap.objs.size+4)) { s with heap:=h' }) :
  wpAny (model prog w) A (call (.type "zip") [v1,v2]) Q E s:=by
 refine callType_new F.called_zip (by decide) (F.typeCall_zip_2 _ _) (F.newCall_zip_2 _ _) (λobj=>F.args_object_init_3 obj _ _) F.entry_zip_new (zipNew m1 m2) ⟨c1,c2,?_⟩
 have y1:(s.heap.push o1).objs.size=s.heap.objs.size+1:=Heap.size_push ..
 have y2:(zH2 s.heap o1 o2).objs.size=s.heap.objs.size+2:=(Heap.size_push ..).trans (by rw [y1])
 have y3:(zH3 s.heap o1 o2).objs.size=s.heap.objs.size+3:=(Heap.size_push ..).trans (by rw [y2])
 have y4:(zH4 s.heap o1 o2).objs.size=s.heap.objs.size+4:=(Heap.size_push ..).trans (by rw [y3])
 have up {h:Heap} {o c o'} (e:h.get? c=some o'):(h.push o).get? c=some o':=Heap.get?_push_of_some _ e
 have g5:(zH5 s.heap o1 o2).get? (zH4 s.heap o1 o2).objs.size=some _:=Heap.get?_push_size _ rfl
 have g4:(zH5 s.heap o1 o2).get? (zH3 s.heap o1 o2).objs.size=some _:=up (Heap.get?_push_size _ rfl)
 have g3:(zH5 s.heap o1 o2).get? (zH2 s.heap o1 o2).objs.size=some _:=up (up (Heap.get?_push_size _ rfl))
 have g2:(zH5 s.heap o1 o2).get? (s.heap.push o1).objs.size=some _:=up (up (up (Heap.get?_push_size _ m2.fr)))
 have g1:(zH5 s.heap o1 o2).get? s.heap.objs.size=some _:=up (up (up (up (Heap.get?_push_size _ m1.fr))))
 show _/\_
 rw [y2,y3,y4] at g5
 rw [y1,y2] at g3
 rw [y3] at g4
 rw [y1] at g2
 rw [y4]
 exact⟨⟨_,g5,rfl⟩,h _ g5 g3 g4 g1 g2 λc o x=>up (up (up (up (up x))))⟩
end
noncomputable def iC:D->Option (List D):=onD (λzw=>none) (λx=>some (x.cps.toList.map λc=>.str ⟨#[c]⟩)) λds=>some ds
section
variable {sa:Shared}
noncomputable def wD (g:Glob) (A:Around) (O M:Avoid) (sa:Shared) (v:Value) (ds:List D):Prop:=∃(o:Obj) (C:Heap->Prop),Makes v o C/\C sa.heap/\∀(it:Addr) (s_1:Shared) (W:Avoid),Keeps sa s_1->sa.heap.get? it=none->s_1.heap.get? it=some o->(∀b,W b->sa.heap.get? b=none)->¬O it->¬M it →
 ∃fp P St,Src g A it fp ds O M W sa s_1 P St/\∀b∈fp,b=it\/∃o',sa.heap.get? b=some o'
theorem src_list (hh:A.handled=none)(rv:Rd O M sa.heap 0 v (.list ds)):wD g A O M sa v ds:=by
 obtain⟨l,us,m,rfl,g1,g2,g3,g4,g5⟩:=bC rv
 have hlen:=g3.length
 rw [Array.length_toList] at hlen
 refine⟨{ cls:=.type "list_iterator",data:=.fields #[.ref l,.int 0 0] },λh=>h.IsList l us,⟨rfl,λh o' c=>Heap.IsList.push c _,λc q=>wpAny_pyIter_list c q⟩,IsL.isList g2,λit s_1 W k1 hn e hW nO nM=>?_⟩
 have ne:l≠it:=λz=>by rw [<- z] at hn; exact no (hn.symm.trans g2)
 have old:∃o',sa.heap.get? l=some o':=⟨_,g2⟩
 refine⟨[it,l],_,_,⟨hlen ▸ Draws.list (A:=A.in1) hh it l ne us,⟨⟨_,e,rfl,rfl⟩,IsL.isList (aA k1 _ _ g2)⟩,λb hb=>?_,λi h st=>?_,λO' M' h i v d wd' wd ag hp hd=>?_⟩,λb hb=>?_⟩
 ·rcases List.mem_cons.mp hb with rfl | hb
  ·exact⟨nO,nM,_,e⟩
  ·obtain rfl:=List.mem_singleton.mp hb
   exact⟨g4,g5 rfl,_,aA k1 _ _ g2⟩
 ·obtain⟨⟨o,ho,hc,hd⟩,_⟩:=st
  exact⟨o,ho,by unfold isFS; rw [hd]⟩
 ·obtain⟨w,hw,hr⟩:=(wd'.rds wd k1 hW g3).get hd
  rw [Array.getElem?_toList] at hw
  obtain rfl:=Option.some.inj (hp.symm.trans hw)
  exact ag.rd wd'.up wd.up hr
 ·rcases List.mem_cons.mp hb with rfl | hb
  ·exact .inl rfl
  ·obtain rfl:=List.mem_singleton.mp hb
   exact .inr old
theorem src_str (hh:A.handled=none){t:Tok}:wD g A O M sa (.str x t) (x.cps.toList.map λc=>.str ⟨#[c]⟩):=by
 have hlen:x.cps.size=(x.cps.toList.map λc=>PyData.str ⟨#[c]⟩).length:=by rw [List.length_map,Array.length_toList]
 refine⟨{ cls:=.type (strIterType x),data:=.fields #[.str x t,.int 0 0] },λzw=>True,⟨rfl,λzw zw h=>h,λzw q=>wpAny_pyIter_strU q⟩,trivial,λit s_1 W k1 hn e hW nO nM=>?_⟩
 have rd:∀(O' M':Avoid) (h:Heap) (i:Nat) (v:Value) (d:D),(∃c u,x.cps[i]?=some c/\v=Value.str ⟨#[c]⟩ u)->(x.cps.toList.map λc=>PyData.str ⟨#[c]⟩)[i]?=some d->Rd O' M' h 0 v d:=λO' M' h i v d hp hd=>by
  obtain⟨c,u,hc,rfl⟩:=hp
  rw [List.getElem?_map,Array.getElem?_toList,hc] at hd
  obtain rfl:=Option.some.inj hd
  exact .str
 have off:∀b∈[it],¬O b/\¬M b/\∃o,s_1.heap.get? b=some o:=λb hb=>by
  obtain rfl:=List.mem_singleton.mp hb
  exact⟨nO,nM,_,e⟩
 have fs:∀{ty:String} (i:Nat) (h:Heap),h.IsStrIter it ty x t i->∃o,h.get? it=some o/\isFS o=true:=λi h st=>by
  obtain⟨o,ho,hc,hd⟩:=st
  exact⟨o,ho,by unfold isFS; rw [hd]⟩
 cases ha:x.cps.all (· < 128)
 ·have ty:strIterType x="str_iterator":=by simp [strIterType,ha]
  exact⟨[it],_,_,⟨hlen ▸ Draws.strWide (A:=A.in1) hh it x t,⟨_,e,congrArg Value.type ty,rfl⟩,off,fs,λO' M' h i v d zw zw zw hp hd=>rd O' M' h i v d hp hd⟩,λb hb=>.inl (List.mem_singleton.mp hb)⟩
 ·have ty:strIterType x="str_ascii_iterator":=by simp [strIterType,ha]
  exact⟨[it],_,_,⟨hlen ▸ Draws.strAscii (A:=A.in1) hh it x t,⟨_,e,congrArg Value.type ty,rfl⟩,off,fs,λO' M' h i v d zw zw zw hp hd=>rd O' M' h i v d hp hd⟩,λb hb=>.inl (List.mem_singleton.mp hb)⟩
theorem src_of (hh:A.handled=none)(rv:Rd O M sa.heap 0 v d)(h:iC d=some ds):wD g A O M sa v ds :=
 kO (P:=λd=>Rd O M sa.heap 0 v d->wD g A O M sa v ds) h (λzw h=>no h) (λx h rv=>sm (P:=λds=>wD g A O M sa v ds) h ((dR rv).elim λt e=>e ▸ src_str hh)) (λxs h rv=>sm (P:=λds=>wD g A O M sa v ds) h (src_list hh rv)) rv
end
theorem zap_of {sa:Shared}{f1 f2:List Addr}(q1:∀b∈f1,b=sa.heap.objs.size\/∃o,sa.heap.get? b=some o)(q2:∀b∈f2,b=(sa.heap.objs.size+1:Nat)\/∃o,sa.heap.get? b=some o) :
  ZAp (sa.heap.objs.size+4:Nat) (sa.heap.objs.size+2:Nat) (sa.heap.objs.size+3:Nat) sa.heap.objs.size (sa.heap.objs.size+1:Nat) f1 f2:=by
 have a1:∀{c:Addr},@LE.le Nat _ sa.heap.objs.size c->c≠sa.heap.objs.size->c∉f1:=λhc h z=>by
  rcases q1 _ z with e | ⟨o,e⟩
  ·exact h e
  ·exact absurd (Heap.lt_size e) (Nat.not_lt.mpr hc)
 have a2:∀{c:Addr},@LE.le Nat _ sa.heap.objs.size c->c≠(sa.heap.objs.size+1:Nat)->c∉f2:=λhc h z=>by
  rcases q2 _ z with e | ⟨o,e⟩
  ·exact h e
  ·exact absurd (Heap.lt_size e) (Nat.not_lt.mpr hc)
 refine⟨?_,?_,?_,?_,?_,?_,?_,?_,?_,?_,a1 (Nat.le_add_right _ 4) ?_,a2 (Nat.le_add_right _ 4) ?_,a1 (Nat.le_add_right _ 3) ?_,a2 (Nat.le_add_right _ 3) ?_,a1 (Nat.le_add_right _ 1) ?_,a2 (Nat.le_refl _) ?_⟩ <;> (first | exact add_ne (by decide) | exact AL (by decide) | exact ne_add0 (by decide))
section
theorem yT {tt:Bool}{e':Expr}{d':D}{es:List D}(hc:Callee g "zip" (.type "zip"))(hsc:V.sc.lookup ("zip":Str)=some .globalImplicit)(x:EvS g n V e d 0)(y:EvS g n V e' d' 0)(hd:iC d=some ds)(hd':iC d'=some es)(hs:aQ e=true)(hs':aQ e'=true) :
  IterS g n V tt (.Call (.Name "zip" p) [e,e'] [] pos) (zipL ds es):=by
 intro O M env A s E Q u rm aO aM eo q
 cases hc with
 | ty h1 h2 h3 =>
  refine Call_ (aT u eo hsc h1 h2 h3 (by decide) (PySem.callWith_type (aL (by simp [hs,hs'])) (aK (by simp [hs,hs']) (wpAny_mono (cQ x (oB y hs') hs O M env A s E pos u rm aO aM eo) (λvs sa hJ0=>?_) λzw zw z=>z))))
  obtain⟨k1,r1⟩:=hJ0
  obtain⟨v,w,rfl,a,b⟩:=r1.two_inv
  obtain⟨o1,C1,m1,c1,f1⟩:=src_of (g:=g) rm.handled a hd
  obtain⟨o2,C2,m2,c2,f2⟩:=src_of (g:=g) rm.handled b hd'
  refine callZip m1 m2 c1 c2 λh' z1 z2 z3 z4 z5 hk=>wpAny_pyIter_zip z1 ?_
  have kk:Keeps sa { sa with heap:=h',toks:=sa.toks }:=d4 hk
  have aOa:=aO.keeps k1
  have aMa:=aM.keeps k1
  have nw:∀c:Addr,@LE.le Nat _ sa.heap.objs.size c->sa.heap.get? c=none/\¬O c/\¬M c:=λc hc=>⟨cJ (aD sa) hc,λz=>by obtain⟨o,e⟩:=aOa _ z; exact absurd (Heap.lt_size e) (Nat.not_lt.mpr hc),λz=>by obtain⟨o,e⟩:=aMa _ z; exact absurd (Heap.lt_size e) (Nat.not_lt.mpr hc)⟩
  have hle:∀c,ZW (sa.heap.objs.size+4:Nat) (sa.heap.objs.size+3:Nat) sa.heap.objs.size (sa.heap.objs.size+1:Nat) c->@LE.le Nat _ sa.heap.objs.size c:=zip_le
  have w1:=nw sa.heap.objs.size (Nat.le_refl _)
  have w2:=nw (sa.heap.objs.size+1:Nat) (Nat.le_add_right _ 1)
  obtain⟨fp1,P1,St1,S1,q1⟩:=f1 _ _ _ kk w1.1 z4 (λb hb=>(nw b (hle b hb)).1) w1.2.1 w1.2.2
  obtain⟨fp2,P2,St2,S2,q2⟩:=f2 _ _ _ kk w2.1 z5 (λb hb=>(nw b (hle b hb)).1) w2.2.1 w2.2.2
  exact q _ _ _ _ (aB k1 kk) (itr_zipD k1 kk aOa aMa hle (Nat.le_add_right _ 2) (zap_of q1 q2) S1 S2 z1 z2 z3)
end
end
set_option backward.match.sparseCases false
section
structure Tab where
 call:Str->List D->Option D
 hook:Rho->Expr->Option DK
noncomputable def mapO {α β:Type} (f:α->Option β):List α->Option (List β)
 | []=>some []
 | a::r=>(f a).bind λb=>(mapO f r).bind λbs=>some (b::bs)
theorem dB {α β:Type}{f:α->Option β}:∀{l:List α} {bs:List β},mapO f l=some bs->bs.length=l.length/\∀(i:Nat) a b,l[i]?=some a->bs[i]?=some b->f a=some b
 | [],_,h=>sm (P:=λbs=>bs.length=0/\∀(i:Nat) a b,([]:List α)[i]?=some a->bs[i]?=some b->f a=some b) h ⟨rfl,λi a b h=>absurd h nofun⟩
 | a::r,bs,h=>bd h λb hb h=>bd h λcs hc h=>sm (P:=λbs=>bs.length=r.length+1/\∀(i:Nat) a' b,(a::r)[i]?=some a'->bs[i]?=some b->f a'=some b) h
   ⟨congrArg (·+1) (dB hc).1,λi=>Nat.rec (λa' b' e e'=>Option.some.inj e ▸ Option.some.inj e' ▸ hb) (λi zw a' b' e e'=>(dB hc).2 i a' b' e e') i⟩
structure Ev where
 e:Rho->Expr->Option DK
 t:Rho->Expr->Option Bool
 i:Rho->Bool->Expr->Option (List D)
noncomputable def dkV {α:Type} (x:Option DK) (f:D->Nat->Option α):Option α:=x.bind λr=>f r.1 r.2
noncomputable def dkI {α:Type} (x:Option DK) (f:Int->Nat->Option α):Option α:=x.bind λr=>onI (λi=>f i r.2) r.1
noncomputable def dkS {α:Type} (x:Option DK) (f:Str->Nat->Option α):Option α:=x.bind λr=>onS (λi=>f i r.2) r.1
noncomputable def dkL {α:Type} (x:Option DK) (f:List D->Nat->Option α):Option α:=x.bind λr=>onL (λi=>f i r.2) r.1
noncomputable def dkA {α:Type} (x:Option DK) (s:Str->Nat->Option α) (l:List D->Nat->Option α):Option α:=x.bind λr=>onD (λzw=>none) (λi=>s i r.2) (λi=>l i r.2) r.1
section
variable {α:Type} {x:Option DK} {r:α} {P:Prop}
theorem vE {f:D->Nat->Option α}(h:dkV x f=some r)(k:∀d kk,x=some (d,kk)->f d kk=some r->P):P:=bd h λq e h=>k _ _ e h
theorem iE {f:Int->Nat->Option α}(h:dkI x f=some r)(k:∀d kk,x=some (.int d,kk)->f d kk=some r->P):P :=
 bd h λq e h=>cH (P:=λd=>x=some (d,q.2)->P) h (λd h e=>k d _ e h) e
theorem sE {f:Str->Nat->Option α}(h:dkS x f=some r)(k:∀d kk,x=some (.str d,kk)->f d kk=some r->P):P :=
 bd h λq e h=>jM (P:=λd=>x=some (d,q.2)->P) h (λd h e=>k d _ e h) e
theorem lE {f:List D->Nat->Option α}(h:dkL x f=some r)(k:∀d kk,x=some (.list d,kk)->f d kk=some r->P):P :=
 bd h λq e h=>sM (P:=λd=>x=some (d,q.2)->P) h (λd h e=>k d _ e h) e
theorem aE {f:Str->Nat->Option α}{g:List D->Nat->Option α}(h:dkA x f g=some r)(k:∀d kk,x=some (.str d,kk)->f d kk=some r->P)(l:∀d kk,x=some (.list d,kk)->g d kk=some r->P):P :=
 bd h λq e h=>kO (P:=λd=>x=some (d,q.2)->P) h (λzw h=>no h) (λd h e=>k d _ e h) (λd h e=>l d _ e h) e
theorem fi {c:Prop}[Decidable c] {a b:Option α}(h:(if c then a else b)=some r)(t:c->a=some r->P)(f:¬c->b=some r->P):P :=
 if e:c then t e ((if_pos e).symm.trans h) else f e ((if_neg e).symm.trans h)
end
noncomputable def l1 {α β:Type} (f:α->Option β):List α->Option β
 | [a]=>f a
 | _=>none
theorem l1E {α β:Type}{f:α->Option β}{l:List α}{r:β}{P:List α->Prop}(h:l1 f l=some r)(k:∀a,f a=some r->P [a]):P l:=match l,h with
 | [a],h=>k a h
noncomputable def l12 {α β:Type} (f:α->Option β) (g:α->α->Option β):List α->Option β
 | [a]=>f a
 | [a,b]=>g a b
 | _=>none
theorem l12E {α β:Type}{f:α->Option β}{g:α->α->Option β}{l:List α}{r:β}{P:List α->Prop}(h:l12 f g l=some r)(k:∀a,f a=some r->P [a])(k':∀a b,g a b=some r->P [a,b]):P l:=match l,h with
 | [a],h=>k a h
 | [a,b],h=>k' a b h
noncomputable def l0 {α β:Type} (x:Option β):List α->Option β
 | []=>x
 | _=>none
theorem l0E {α β:Type}{x:Option β}{l:List α}{r:β}{P:List α->Prop}(h:l0 x l=some r)(k:x=some r->P []):P l:=match l,h with
 | [],h=>k h
noncomputable def lvl0 (vs:List DK):Bool:=vs.all λp=>p.2==0
noncomputable def lvl9 (vs:List DK):Bool:=vs.all λp=>decide (p.2<=9)
noncomputable def dE (e:Expr):Bool:=e.ctorIdx != 7
noncomputable def ttOf (e:Expr):Bool:=e.ctorIdx==25
noncomputable def gJ (R:Ev) (V:Rho):Option Expr->Option (Option Int)
 | none=>some none
 | some e=>dkV (R.e V e) λd zw=>orE (onI some d) some ((nH d).bind λzw=>some none)
noncomputable def ifsE (R:Ev) (V:Rho):List Expr->Option Bool
 | []=>some true
 | c::cs=>l0 (R.t V c) cs
noncomputable def nP (R:Ev) (elt target:Expr) (ifs:List Expr) (V:Rho) (d:D):Option (List D) :=
 (jG V target d).bind λV'=>(ifsE R V' ifs).bind λb=>if b=true then dkV (R.e V' elt) λe k=>if k=0 then some [e] else none else some []
noncomputable def jO (R:Ev) (V:Rho) (elt target iter:Expr) (ifs:List Expr) (scope:Scope):Option DK :=
 (aR target).bind λxs =>
  if dE iter=true/\scope.kind=.function/\bW V scope.names=true/\bR scope.names xs=true then
   (R.i V (ttOf target) iter).bind λitems=>(mapO (nP R elt target ifs (V.inner scope.names)) items).bind λouts=>if outs.flatten.length<=cap then some (.list outs.flatten,0) else none
  else none
noncomputable def sY (R:Ev) (elt target:Expr) (ifs:List Expr) (target' iter':Expr) (ifs':List Expr) (V:Rho) (d:D):Option (List D) :=
 (jG V target d).bind λV'=>(ifsE R V' ifs).bind λb=>if b=true then (R.i V' (ttOf target') iter').bind λitems=>(mapO (nP R elt target' ifs' V') items).bind λouts=>some outs.flatten else some []
noncomputable def mO (R:Ev) (V:Rho) (elt target iter:Expr) (ifs:List Expr) (target' iter':Expr) (ifs':List Expr) (scope:Scope):Option DK :=
 (aR target).bind λxs=>(aR target').bind λxs' =>
  if dE iter=true/\dE iter'=true/\scope.kind=.function/\bW V scope.names=true/\bR scope.names xs=true/\bR scope.names xs'=true/\xs'.all (λx=>!xs.contains x)=true then
   (R.i V (ttOf target) iter).bind λitems=>(mapO (sY R elt target ifs target' iter' ifs' (V.inner scope.names)) items).bind λouts=>if outs.flatten.length<=cap then some (.list outs.flatten,0) else none
  else none
noncomputable def methE (R:Ev) (V:Rho) (o:Expr) (m:Str) (args:List Expr):Option DK :=
 if m==("lower":Str) then l0 (dkS (R.e V o) λx zw=>if (Txt.lower x).length<=cap then some (.str (Txt.lower x),0) else none) args else none
noncomputable def callE (T:Tab) (R:Ev) (V:Rho) (f:Str) (args:List Expr):Option DK :=
 if V.sc.lookup f=some .globalImplicit/\args.all aQ=true then
  (mapO (R.e V) args).bind λvs=>if lvl9 vs=true then orE (btD f (vs.map (·.1))) (λd=>(d,0)) (if lvl0 vs=true/\(f==("__debug__":Str))=false then (T.call f (vs.map (·.1))).bind λd=>some (d,0) else none) else none
 else none
noncomputable def constE:Const->Option DK
 | .int i=>some (.int i,0)
 | .str x=>some (.str x,0)
 | .none=>some (.none,0)
 | .bool b=>some (.bool b,0)
 | _=>none
noncomputable def negE (R:Ev) (V:Rho) (e:Expr):Option DK:=dkI (R.e V e) λi zw=>some (.int (-i),0)
noncomputable def binE (R:Ev) (V:Rho) (l r:Expr) (op:Operator):Option DK:=dkV (R.e V l) λa k=>dkV (R.e V r) λb kk=>binD op a k b kk
noncomputable def ifE (R:Ev) (V:Rho) (c a b:Expr):Option DK:=(R.t V c).bind λt=>if t=true then R.e V a else R.e V b
noncomputable def nameE (V:Rho) (x:Str):Option DK:=if (x==("__debug__":Str))=true then none else V.vars.lookup x
noncomputable def unE (R:Ev) (V:Rho) (e:Expr):UnaryOp->Option DK
 | .USub=>negE R V e
 | _=>none
noncomputable def cmpE1 {α:Type} (R:Ev) (V:Rho) (l:Expr) (mk:Bool->α) (op:CmpOp) (r:Expr):Option α:=if behindInMarks op r=false then dkV (R.e V l) λa zw=>dkV (R.e V r) λb zw=>(cmpD op a b).bind λc=>some (mk c) else none
noncomputable def cmpE {α:Type} (R:Ev) (V:Rho) (l:Expr) (mk:Bool->α) (ops:List CmpOp) (rs:List Expr):Option α:=l1 (λop=>l1 (cmpE1 R V l mk op) rs) ops
noncomputable def or2E (R:Ev) (V:Rho) (x y:Expr):Option DK:=dkV (R.e V x) λa k=>if pQ a=true then (if dI a=true then some (a,k) else R.e V y) else none
noncomputable def yV:BoolOp->Bool
 | .And=>true
 | .Or=>false
noncomputable def boolE (R:Ev) (V:Rho) (op:BoolOp):List Expr->Option DK:=l12 (λzw=>none) λx y=>if yV op=true then none else or2E R V x y
noncomputable def seqE (R:Ev) (V:Rho) (mk:List D->D) (es:List Expr):Option DK:=if es.all aQ=true then (mapO (R.e V) es).bind λvs=>if lvl0 vs=true/\vs.length<=cap then some (mk (vs.map (·.1)),0) else none else none
noncomputable def noO {α β:Type} (x:Option β):Option α->Option β
 | none=>x
 | some _=>none
theorem noOE {α β:Type}{x:Option β}{o:Option α}{r:β}{P:Option α->Prop}(h:noO x o=some r)(k:x=some r->P none):P o:=match o,h with
 | none,h=>k h
noncomputable def cutS (R:Ev) (V:Rho) (o:Expr) (lo hi st:Option Expr):Option DK:=(gJ R V lo).bind λl=>(gJ R V hi).bind λh=>dkA (R.e V o)
 (λx zw=>noO (if x.length<=cap then some (.str (Txt.slice x l h),0) else none) st) (λxs k=>(gJ R V st).bind λt=>if k<=1/\t≠some 0 then some (.list (dK xs l h t),0) else none)
noncomputable def onT {α:Type} (f:List D->Option α):D->Option α
 | .tuple x=>f x
 | _=>none
theorem onT_el {α:Type}{f:List D->Option α}{r:α}{P:D->Prop}(h:onT f d=some r)(k:∀x,f x=some r->P (.tuple x)):P d:=by
 cases d <;> first | exact k _ h | exact no h
noncomputable def cutE (R:Ev) (V:Rho) (o:Expr) (lo hi st:Option Expr):Option DK:=orE (cutS R V o lo hi st) id none
noncomputable def idxE (R:Ev) (V:Rho) (o i:Expr):Option DK:=if SubS.notSlice i=true then dkV (R.e V o) λa k=>dkI (R.e V i) λz zw=>(idxD a z).bind λd=>some (d,k - 1) else none
noncomputable def subE (R:Ev) (V:Rho) (o i:Expr):Option DK:=if h:i.ctorIdx=26 then Expr.Slice.elim (motive_1:=λzw=>Option DK) i h λlo hi st zw=>cutE R V o lo hi st else idxE R V o i
noncomputable def callX (T:Tab) (R:Ev) (V:Rho) (args:List Expr) (pos:Pos) (e:Expr):Option DK :=
 if h:e.ctorIdx=20 then Expr.Attribute.elim (motive_1:=λzw=>Option DK) e h λo m ap=>if eS o=true/\(ap.endLine==pos.line)=true then methE R V o m args else none else onNm (λf zw=>callE T R V f args) e
noncomputable def zT (R:Ev) (V:Rho) (elt:Expr) (scope:Scope):List Comprehension->Option DK:=l12 (λc=>if c.is_async=0 then jO R V elt c.target c.iter c.ifs scope else none)
 (λc c'=>if c.is_async=0/\c'.is_async=0 then mO R V elt c.target c.iter c.ifs c'.target c'.iter c'.ifs scope else none)
noncomputable def wV (T:Tab) (R:Ev) (V:Rho):Expr->Option DK
 | .Constant c _ _=>constE c
 | .Name x _=>nameE V x
 | .BinOp l op r _=>binE R V l r op
 | .UnaryOp op e _=>unE R V e op
 | .Compare l ops rs _=>cmpE R V l (λb=>(.bool b,0)) ops rs
 | .BoolOp op es _=>boolE R V op es
 | .IfExp c a b _=>ifE R V c a b
 | .List es _=>seqE R V .list es
 | .Tuple es _ _=>seqE R V .tuple es
 | .Subscript o i _=>subE R V o i
 | .Call f args kws pos=>l0 (callX T R V args pos f) kws
 | .ListComp elt gens scope _=>zT R V elt scope gens
 | _=>none
noncomputable def stepE (T:Tab) (R:Ev) (V:Rho) (e:Expr):Option DK:=orE (T.hook V e) id (wV T R V e)
noncomputable def isNot:UnaryOp->Bool
 | .Not=>true
 | _=>false
noncomputable def testV (R:Ev) (V:Rho) (e:Expr):Option Bool:=if iO e=true then dkV (R.e V e) λd zw=>if pQ d=true then some (dI d) else none else none
noncomputable def boolT (R:Ev) (V:Rho) (op:BoolOp) (p:Pos):List Expr->Option Bool
 | []=>some (yV op)
 | x::es=>(R.t V x).bind λb=>if b=yV op then R.t V (.BoolOp op es p) else some b
noncomputable def stepT (R:Ev) (V:Rho) (e:Expr):Option Bool :=
 if h:e.ctorIdx=0 then Expr.BoolOp.elim (motive_1:=λzw=>Option Bool) e h λop es p=>boolT R V op p es
 else if h:e.ctorIdx=3 then Expr.UnaryOp.elim (motive_1:=λzw=>Option Bool) e h λop x zw=>if isNot op=true then (R.t V x).bind λb=>some (!b) else testV R V e
 else if h:e.ctorIdx=15 then Expr.Compare.elim (motive_1:=λzw=>Option Bool) e h λl ops rs zw=>cmpE R V l id ops rs
 else testV R V e
noncomputable def sN {β:Type} (f:Expr->List Expr->List Keyword->Pos->Option β) (e:Expr):Option β:=if h:e.ctorIdx=16 then Expr.Call.elim (motive_1:=λzw=>Option β) e h f else none
theorem pI {β:Type}{f:Expr->List Expr->List Keyword->Pos->Option β}{r:β}{P:Expr->Prop}(h:sN f e=some r)(k:∀a b c d,f a b c d=some r->P (.Call a b c d)):P e :=
 if hh:e.ctorIdx=16 then Expr.Call.elim (motive_1:=λe=>sN f e=some r->P e) e hh k h else no ((dif_neg hh).symm.trans h)
noncomputable def xU {β:Type} (f:Expr->Str->Pos->Option β) (e:Expr):Option β:=if h:e.ctorIdx=20 then Expr.Attribute.elim (motive_1:=λzw=>Option β) e h f else none
theorem xT {β:Type}{f:Expr->Str->Pos->Option β}{r:β}{P:Expr->Prop}(h:xU f e=some r)(k:∀a b c,f a b c=some r->P (.Attribute a b c)):P e :=
 if hh:e.ctorIdx=20 then Expr.Attribute.elim (motive_1:=λe=>xU f e=some r->P e) e hh k h else no ((dif_neg hh).symm.trans h)
noncomputable def xS {β:Type} (f:Expr->List Comprehension->Scope->Pos->Option β) (e:Expr):Option β:=if h:e.ctorIdx=8 then Expr.ListComp.elim (motive_1:=λzw=>Option β) e h f else none
theorem xR {β:Type}{f:Expr->List Comprehension->Scope->Pos->Option β}{r:β}{P:Expr->Prop}(h:xS f e=some r)(k:∀a b c d,f a b c d=some r->P (.ListComp a b c d)):P e :=
 if hh:e.ctorIdx=8 then Expr.ListComp.elim (motive_1:=λe=>xS f e=some r->P e) e hh k h else no ((dif_neg hh).symm.trans h)
noncomputable def onBin {β:Type} (f:Expr->Operator->Expr->Pos->Option β) (e:Expr):Option β:=if h:e.ctorIdx=2 then Expr.BinOp.elim (motive_1:=λzw=>Option β) e h f else none
theorem onBin_el {β:Type}{f:Expr->Operator->Expr->Pos->Option β}{r:β}{P:Expr->Prop}(h:onBin f e=some r)(k:∀a b c d,f a b c d=some r->P (.BinOp a b c d)):P e :=
 if hh:e.ctorIdx=2 then Expr.BinOp.elim (motive_1:=λe=>onBin f e=some r->P e) e hh k h else no ((dif_neg hh).symm.trans h)
noncomputable def onAsg {β:Type} (f:List Expr->Expr->Pos->Option β) (e:Stmt):Option β:=if h:e.ctorIdx=5 then Stmt.Assign.elim (motive_2:=λzw=>Option β) e h f else none
theorem onAsg_el {β:Type}{f:List Expr->Expr->Pos->Option β}{e:Stmt}{r:β}{P:Stmt->Prop}(h:onAsg f e=some r)(k:∀a b c,f a b c=some r->P (.Assign a b c)):P e :=
 if hh:e.ctorIdx=5 then Stmt.Assign.elim (motive_2:=λe=>onAsg f e=some r->P e) e hh k h else no ((dif_neg hh).symm.trans h)
noncomputable def vY (e:Expr):Option (Str×List Expr):=sN (λf args kws zw=>onNm (λf zw=>l0 (some (f,args)) kws) f) e
theorem oG {r:Str×List Expr}{P:Expr->Prop}(h:vY e=some r)(k:∀p pos,P (.Call (.Name r.1 p) r.2 [] pos)):P e :=
 pI h λf args kws pos h=>qW (P:=λf=>P (.Call f args kws pos)) h λf p h=>l0E (P:=λkws=>P (.Call (.Name f p) args kws pos)) h λh=>sm (P:=λr:Str×List Expr=>(∀p pos,P (.Call (.Name r.1 p) r.2 [] pos))->P (.Call (.Name f p) args [] pos)) h (λk=>k p pos) k
noncomputable def itE (R:Ev) (V:Rho) (tt:Bool) (f:Str) (args:List Expr):Option (List D) :=
 if V.sc.lookup f=some .globalImplicit/\args.all aQ=true then
  if f==("range":Str) then
   if tt=false then l1 (λa=>dkI (R.e V a) λb zw=>if fL 0 b 1=true then some ((bF 0 b 1).map .int) else none) args else none
  else if f==("enumerate":Str) then
   if tt=true then l1 (λa=>dkL (R.e V a) λds k=>if k=0 then some (qC ds) else none) args else none
  else if f==("zip":Str) then
   l12 (λzw=>none) (λa b=>dkV (R.e V a) λx k=>dkV (R.e V b) λy k'=>if k=0/\k'=0 then (iC x).bind λxs=>(iC y).bind λys=>some (zipL xs ys) else none) args
  else none
 else none
noncomputable def xN (R:Ev) (V:Rho) (tt:Bool) (e:Expr):Option (List D):=dkA (R.e V e) (λx zw=>if tt=false then some (x.cps.toList.map λc=>.str ⟨#[c]⟩) else none) (λds k=>if k=0/\(!tt || ds.all isTup)=true then some ds else none)
noncomputable def stepI (R:Ev) (V:Rho) (tt:Bool) (e:Expr):Option (List D):=orE ((vY e).bind λq=>itE R V tt q.1 q.2) id (xN R V tt e)
noncomputable def Ev.at (T:Tab):Nat->Ev
 | 0=>⟨λzw zw=>none,λzw zw=>none,λzw zw zw=>none⟩
 | n+1=>⟨stepE T (Ev.at T n),stepT (Ev.at T n),stepI (Ev.at T n)⟩
end
set_option backward.match.sparseCases true
section
structure Ev.Ok (g:Glob) (n:Nat) (R:Ev):Prop where
 e:∀V e d k,R.e V e=some (d,k)->EvS g n V e d k
 t:∀V e b,R.t V e=some b->TestS g n V e b
 i:∀V tt e ds,R.i V tt e=some ds->IterS g n V tt e ds
structure TabOk (T:Tab) (g:Glob) (n:Nat):Prop where
 call:∀f ds d,T.call f ds=some d->∃v,Callee g f v/\aZ g n v ds 0 d 0
 hook:∀V e d k,T.hook V e=some (d,k)->EvS g n V e d k
section
variable {R:Ev}
theorem EvS.up {k':Nat}(x:EvS g n V e d k)(h:k<=k'):EvS g n V e d k':=λO M env A s E u rm aO aM eo =>
 wpAny_mono (x O M env A s E u rm aO aM eo) (λv s' ⟨a,b⟩=>⟨a,b.le h⟩) λzw zw z=>z
theorem jY {K:Nat}(ok:R.Ok g n):∀{es:List Expr} {vs:List DK},mapO (R.e V) es=some vs->es.all aQ=true->(vs.all λp=>decide (p.2<=K))=true->EvsS g n V es (vs.map (·.1)) K
 | [],_,h,_,_=>sm (P:=λvs:List DK=>EvsS g n V [] (vs.map (·.1)) K) h dX
 | e::es,vs,h,hs,hl=>bd h λb hb h=>bd h λcs hc h=>sm (P:=λvs:List DK=>(vs.all λp=>decide (p.2<=K))=true->EvsS g n V (e::es) (vs.map (·.1)) K) h (λhl =>
   cQ ((ok.e _ _ b.1 b.2 hb).up (of_decide_eq_true (Bool.and_eq_true_iff.mp hl).1)) (jY ok hc (Bool.and_eq_true_iff.mp hs).2 (Bool.and_eq_true_iff.mp hl).2) (Bool.and_eq_true_iff.mp hs).1) hl
theorem yI {vs:List DK}(h:lvl0 vs=true):(vs.all λp=>decide (p.2<=0))=true:=by
 unfold lvl0 at h
 rw [List.all_eq_true] at h ⊢
 intro p hp
 have:=h p hp
 simpa using this
theorem iP (ok:R.Ok g n){e:Option Expr}{p:Option Int}(h:gJ R V e=some p):i0 g n V e p:=by
 cases e with
 | none=>exact sm h rfl
 | some e =>
  have h:dkV (R.e V e) (λd zw=>orE (onI some d) some ((nH d).bind λzw=>some none))=some p:=h
  exact vE h λd k x h=>fP h (λi hi z=>z ▸ cH (P:=λd=>R.e V e=some (d,k)->i0 g n V (some e) (some i)) hi (λq h y=>sm (P:=λi=>i0 g n V (some e) (some i)) h ⟨_,ok.e _ _ _ _ y⟩) x)
   λh=>bd h λzw z h=>jX (P:=λd=>R.e V e=some (d,k)->i0 g n V (some e) p) z (λy=>sm (P:=λp=>i0 g n V (some e) p) h ⟨_,ok.e _ _ _ _ y⟩) x
theorem nT (ok:R.Ok g n){ifs:List Expr}{b:Bool}(h:ifsE R V ifs=some b):IfsS g n V ifs b:=by
 cases ifs with
 | nil=>exact sm h y6
 | cons c cs=>exact l0E (P:=λcs=>IfsS g n V (c::cs) b) h λh=>y5 (ok.t _ _ _ h)
theorem nN (ok:R.Ok g n){ifs:List Expr}{out:List D}(h:nP R elt target ifs V d=some out):LastS g n elt target ifs V d out :=
 bd h λV' hb h=>bd h λb hi h=>fi h (λe h=>vE h λx k hx h=>sm (gd h).2 ⟨V',true,hb,nT ok (e ▸ hi),.inl ⟨rfl,x,rfl,ok.e _ _ _ _ ((gd h).1 ▸ hx)⟩⟩)
  λe h=>sm h ⟨V',false,hb,nT ok (Bool.eq_false_iff.mpr e ▸ hi),.inr ⟨rfl,rfl⟩⟩
theorem bU (h:dE iter=true):∀env x,foldedSetIterable iter env x=pure x:=by
 intro env x
 cases iter <;> first | rfl | exact nb h | cases h
theorem fG {xs:List Str}(h:aR target=some xs):Tgt (ttOf target) target:=by
 cases target <;> first | exact⟨_,_,rfl⟩ | exact⟨_,_,_,rfl⟩ | exact no h
theorem zW (ok:R.Ok g n){ifs:List Expr}{scope:Scope}{r:DK}(h:jO R V elt target iter ifs scope=some r):EvS g n V (.ListComp elt [⟨target,iter,ifs,0⟩] scope cp) r.1 r.2 :=
 bd h λxs hx h=>bd (gd h).2 λitems hi h'=>bd h' λouts ho h'=>sm (P:=λr:DK=>EvS g n V (.ListComp elt [⟨target,iter,ifs,0⟩] scope cp) r.1 r.2) (gd h').2
  (ev_comp1 (bU (gd h).1.1) (gd h).1.2.1 (gd h).1.2.2.1 (ok.i _ _ _ _ hi) (fG hx) hx (gd h).1.2.2.2 (dB ho).1 (gd h').1 λi d out a b=>nN ok ((dB ho).2 i d out a b))
theorem pZ (ok:R.Ok g n){target' iter':Expr}{ifs ifs':List Expr}{out:List D}(h:sY R elt target ifs target' iter' ifs' V d=some out) :
  ∃V' b,jG V target d=some V'/\IfsS g n V' ifs b ∧
   ((b=true/\∃(items':List D) (outs':List (List D)),out=outs'.flatten/\outs'.length=items'.length/\IterS g n V' (ttOf target') iter' items'/\∀(j:Nat) (d':D) (out':List D),items'[j]?=some d'->outs'[j]?=some out'->LastS g n elt target' ifs' V' d' out')\/(b=false/\out=[])) :=
 bd h λV' hb h=>bd h λb hf h=>fi h (λe h=>bd h λitems' hi h=>bd h λouts' ho h =>
   ⟨V',true,hb,nT ok (e ▸ hf),.inl ⟨rfl,items',outs',(Option.some.inj h).symm,(dB ho).1,ok.i _ _ _ _ hi,λj d' out' a b=>nN ok ((dB ho).2 j d' out' a b)⟩⟩)
  λe h=>⟨V',false,hb,nT ok (Bool.eq_false_iff.mpr e ▸ hf),.inr ⟨rfl,(Option.some.inj h).symm⟩⟩
theorem zU (ok:R.Ok g n){target' iter':Expr}{ifs ifs':List Expr}{scope:Scope}{r:DK}(h:mO R V elt target iter ifs target' iter' ifs' scope=some r) :
  EvS g n V (.ListComp elt [⟨target,iter,ifs,0⟩,⟨target',iter',ifs',0⟩] scope cp) r.1 r.2 :=
 bd h λxs hx h=>bd h λxs' hx' h=>bd (gd h).2 λitems hi h'=>bd h' λouts ho h'=>sm (P:=λr:DK=>EvS g n V (.ListComp elt [⟨target,iter,ifs,0⟩,⟨target',iter',ifs',0⟩] scope cp) r.1 r.2) (gd h').2
  (ev_comp2 (bU (gd h).1.1) (bU (gd h).1.2.1) (gd h).1.2.2.1 (gd h).1.2.2.2.1 (ok.i _ _ _ _ hi) (fG hx) (fG hx') hx hx' (gd h).1.2.2.2.2.1 (gd h).1.2.2.2.2.2.1 (gd h).1.2.2.2.2.2.2 (dB ho).1 (gd h').1 λi d out a b=>pZ ok ((dB ho).2 i d out a b))
theorem compG_ok (ok:R.Ok g n){gens:List Comprehension}{scope:Scope}{r:DK}(h:zT R V elt scope gens=some r):EvS g n V (.ListComp elt gens scope cp) r.1 r.2 :=
 l12E (P:=λgens=>EvS g n V (.ListComp elt gens scope cp) r.1 r.2) h (λc h=>by
  obtain⟨t,i,f,a⟩:=c
  obtain rfl:a=0:=(gd h).1
  exact zW ok (gd h).2) λc c' h=>by
  obtain⟨t,i,f,a⟩:=c
  obtain⟨t',i',f',a'⟩:=c'
  obtain rfl:a=0:=(gd h).1.1
  obtain rfl:a'=0:=(gd h).1.2
  exact zU ok (gd h).2
theorem methE_ok (ok:R.Ok g n){o:Expr}{m:Str}{args:List Expr}{ap:Pos}{r:DK}(h:methE R V o m args=some r)(hb:eS o=true)(hl:(ap.endLine==pos.line)=true):EvS g n V (.Call (.Attribute o m ap) args [] pos) r.1 r.2 :=
 eM (P:=λm=>EvS g n V (.Call (.Attribute o m ap) args [] pos) r.1 r.2) h
  (λh=>l0E (P:=λargs=>EvS g n V (.Call (.Attribute o "lower" ap) args [] pos) r.1 r.2) h λh=>sE h λx k e h=>sm (P:=λr:DK=>EvS g n V (.Call (.Attribute o "lower" ap) [] [] pos) r.1 r.2) (gd h).2 (ev_lower (ok.e _ _ _ _ e) (gd h).1 hb hl)) λh=>no h
theorem callE_ok {T:Tab}(N:Names g)(tok:TabOk T g n)(ok:R.Ok g n){f:Str}{args:List Expr}{r:DK}(h:callE T R V f args=some r):EvS g n V (.Call (.Name f p) args [] pos) r.1 r.2 :=
 bd (gd h).2 λvs hv h'=>fP (gd h').2 (λd hd z=>z ▸ (z8 (n:=n) (ks:=9) N hd).elim λv c=>lC c.1 (gd h).1.1 c.2.1 (gd h).1.2 (jY ok hv (gd h).1.2 (gd h').1) c.2.2)
  λh''=>bd (gd h'').2 λd hd z=>sm (P:=λr:DK=>EvS g n V (.Call (.Name f p) args [] pos) r.1 r.2) z ((tok.call _ _ _ hd).elim λv c=>lC c.1 (gd h).1.1 (gd h'').1.2 (gd h).1.2 (jY ok hv (gd h).1.2 (yI (gd h'').1.1)) c.2)
end
end
section
section
variable {R:Ev}
theorem EvS.up' {i:Int}{k':Nat}(x:EvS g n V e (.int i) k):EvS g n V e (.int i) k':=λO M env A s E u rm aO aM eo =>
 wpAny_mono (x O M env A s E u rm aO aM eo) (λv s' ⟨a,b⟩=>⟨a,by obtain⟨t,rfl⟩:=aH b; exact .int⟩) λzw zw z=>z
theorem lN {op:BoolOp}{es:List Expr}{b:Bool}(y:TestS g n V (.BoolOp op es p) b):AllS g n V op es b:=λO M env A s E u rm aO aM eo=>by
 have:=y O M env A s E u rm aO aM eo
 rw [arm_isTrue_BoolOp] at this
 exact this
theorem rY (ok:R.Ok g n){b:Bool}(h:testV R V e=some b):TestS g n V e b :=
 vE (gd h).2 λd k hr h'=>sm (gd h').2 (fZ (ok.e _ _ _ _ hr) (gd h').1 (gd h).1)
theorem boolT_ok (ok:R.Ok g n){op:BoolOp}{es:List Expr}{b:Bool}(h:boolT R V op p es=some b):TestS g n V (.BoolOp op es p) b:=by
 cases es with
 | nil =>
  cases op with
  | And=>exact sm h (eC rP)
  | Or=>exact sm h (eC wB)
 | cons x es =>
  refine bd h λc hc h=>fi h (λe h=>?_) λe h=>sm h ?_
  ·cases op with
   | And=>exact eC (by simpa [e,yV] using jQ (ok.t _ _ _ hc) (λzw=>lN (ok.t _ _ _ h)))
   | Or=>exact eC (by simpa [e,yV] using lM (ok.t _ _ _ hc) (λzw=>lN (ok.t _ _ _ h)))
  ·cases op with
   | And =>
    obtain rfl:c=false:=Bool.eq_false_iff.mpr e
    exact eC (jQ (c:=true) (ok.t _ _ _ hc) nofun)
   | Or =>
    obtain rfl:c=true:=Bool.ne_false_iff.mp e
    exact eC (lM (c:=true) (ok.t _ _ _ hc) nofun)
theorem stepT_ok (hn:1<=n)(ok:R.Ok g n){b:Bool}(h:stepT R V e=some b):TestS g n V e b:=by
 cases e with
 | UnaryOp op x p =>
  refine fi h (λe h=>?_) λzw h=>rY ok h
  cases op with
  | Not=>exact bd h λc hc h=>sm h (test_not (ok.t _ _ _ hc))
  | _=>exact absurd e nofun
 | BoolOp op es p=>exact boolT_ok ok h
 | Compare l ops rs p =>
  exact l1E (P:=λops=>TestS g n V (.Compare l ops rs p) b) h λop h=>l1E (P:=λrs=>TestS g n V (.Compare l [op] rs p) b) h λr h=>vE (gd h).2 λa ka ha h'=>vE h' λc kc hc h'=>bd h' λq hq h' =>
   sm (P:=λb=>TestS g n V (.Compare l [op] [r] p) b) h' (rX (ok.e _ _ _ _ ha) (ok.e _ _ _ _ hc) (mT hn hq) (gd h).1)
 | _=>exact rY ok h
theorem plain_ok (ok:R.Ok g n){tt:Bool}(h:xN R V tt e=some ds):IterS g n V tt e ds :=
 aE h (λx k hr h=>(gd h).1 ▸ sm (gd h).2 (iter_str (ok.e _ _ _ _ hr))) λxs k hr h=>sm (gd h).2 (pS (ok.e _ _ _ _ ((gd h).1.1 ▸ hr)) λz=>by have:=(gd h).1.2; rw [z] at this; exact this)
theorem star1 {a:Expr}(h:[a].all aQ=true):aQ a=true:=(Bool.and_eq_true_iff.mp h).1
theorem star2 {a b:Expr}(h:[a,b].all aQ=true):aQ a=true/\aQ b=true:=⟨(Bool.and_eq_true_iff.mp h).1,star1 (Bool.and_eq_true_iff.mp h).2⟩
theorem itE_ok (N:Names g)(ok:R.Ok g n){f:Str}{args:List Expr}{tt:Bool}(h:itE R V tt f args=some ds):IterS g n V tt (.Call (.Name f p) args [] pos) ds:=by
 obtain⟨⟨hsc,hs⟩,h⟩:=gd h
 revert hsc
 refine eM (P:=λf=>V.sc.lookup f=some .globalImplicit->IterS g n V tt (.Call (.Name f p) args [] pos) ds) h (λh hsc=>?_) λh=>eM (P:=λf=>V.sc.lookup f=some .globalImplicit->IterS g n V tt (.Call (.Name f p) args [] pos) ds) h (λh hsc=>?_) λh =>
  eM (P:=λf=>V.sc.lookup f=some .globalImplicit->IterS g n V tt (.Call (.Name f p) args [] pos) ds) h (λh hsc=>?_) λh=>no h
 ·obtain⟨rfl,h⟩:=gd h
  exact l1E (P:=λargs=>args.all aQ=true->IterS g n V false (.Call (.Name "range" p) args [] pos) ds) h (λa h hs=>iE h λz k hz h=>sm (gd h).2 (dA N.range hsc (ok.e _ _ _ _ hz) (star1 hs) (gd h).1)) hs
 ·obtain⟨rfl,h⟩:=gd h
  exact l1E (P:=λargs=>args.all aQ=true->IterS g n V true (.Call (.Name "enumerate" p) args [] pos) ds) h (λa h hs=>lE h λxs k hx h=>sm (gd h).2 (yU N.enum hsc (ok.e _ _ _ _ ((gd h).1 ▸ hx)) (star1 hs))) hs
 ·exact l12E (P:=λargs=>args.all aQ=true->IterS g n V tt (.Call (.Name "zip" p) args [] pos) ds) h (λa h=>no h)
   (λa b h hs=>vE h λx k hx h=>vE h λy k' hy h=>bd (gd h).2 λxs ex h'=>bd h' λys ey h'=>sm h' (yT N.zip hsc (ok.e _ _ _ _ ((gd h).1.1 ▸ hx)) (ok.e _ _ _ _ ((gd h).1.2 ▸ hy)) ex ey (star2 hs).1 (star2 hs).2)) hs
theorem stepI_ok (N:Names g)(ok:R.Ok g n){tt:Bool}(h:stepI R V tt e=some ds):IterS g n V tt e ds :=
 fP h (λa ha z=>bd ha λq hq ha=>oG (P:=λe=>IterS g n V tt e ds) hq λp pos=>itE_ok N ok (ha.trans (congrArg some z))) (plain_ok ok)
end
end
section
section
variable {R:Ev}
theorem zR {c:Const}{r:DK}{kk:Nat}(h:constE c=some r):EvS g n V (.Constant c kk p) r.1 r.2:=by
 cases c <;> cases h
 ·exact fX
 ·exact zL
 ·exact eK
 ·exact ev_str
theorem unE_ok (ok:R.Ok g n){op:UnaryOp}{r:DK}(h:unE R V e op=some r):EvS g n V (.UnaryOp op e p) r.1 r.2:=by
 cases op <;> try exact no h
 ·have h:negE R V e=some r:=h
  exact iE h λd k hr h=>sm (P:=λr:DK=>EvS g n V (.UnaryOp .USub e p) r.1 r.2) h (ev_neg (ok.e _ _ _ _ hr))
theorem cmpE_ok (hn:1<=n)(ok:R.Ok g n){l:Expr}{ops:List CmpOp}{rs:List Expr}{r:DK}(h:cmpE R V l (λb=>(PyData.bool b,0)) ops rs=some r):EvS g n V (.Compare l ops rs p) r.1 r.2 :=
 l1E (P:=λops=>EvS g n V (.Compare l ops rs p) r.1 r.2) h λop h=>l1E (P:=λrs=>EvS g n V (.Compare l [op] rs p) r.1 r.2) h λx h=>vE (gd h).2 λa ka ha h'=>vE h' λc kc hc h'=>bd h' λq hq h' =>
  sm (P:=λr:DK=>EvS g n V (.Compare l [op] [x] p) r.1 r.2) h' (ev_cmp (ok.e _ _ _ _ ha) (ok.e _ _ _ _ hc) (mT hn hq) (gd h).1)
theorem boolE_ok (ok:R.Ok g n){op:BoolOp}{es:List Expr}{r:DK}(h:boolE R V op es=some r):EvS g n V (.BoolOp op es p) r.1 r.2:=by
 cases op with
 | And=>exact l12E (P:=λes=>EvS g n V (.BoolOp .And es p) r.1 r.2) h (λzw h=>no h) λx y h=>no h
 | Or =>
  refine l12E (P:=λes=>EvS g n V (.BoolOp .Or es p) r.1 r.2) h (λzw h=>no h) λx y h=>?_
  have h:or2E R V x y=some r:=h
  exact vE h λa k ha h=>fi (gd h).2 (λt h'=>sm (P:=λr:DK=>EvS g n V (.BoolOp .Or [x,y] p) r.1 r.2) h' (ev_or2 (ok.e _ _ _ _ ha) (gd h).1 (λzw=>⟨rfl,Nat.le_refl _⟩) λz=>absurd (z.symm.trans t) nofun))
   λt h'=>ev_or2 (ok.e _ _ _ _ ha) (gd h).1 (λz=>absurd z t) λz=>ok.e _ _ _ _ h'
theorem idxE_ok (ok:R.Ok g n){o i:Expr}{r:DK}(h:idxE R V o i=some r):EvS g n V (.Subscript o i p) r.1 r.2 :=
 vE (gd h).2 λa k ha h'=>iE h' λz kz hz h'=>bd h' λd hd h'=>sm (P:=λr:DK=>EvS g n V (.Subscript o i p) r.1 r.2) h' (ev_item (ok.e _ _ _ _ ha) (ok.e _ _ _ _ hz) hd (Nat.le_add_of_sub_le (Nat.le_refl _)) (gd h).1)
theorem cutS_ok (ok:R.Ok g n){o:Expr}{lo hi st:Option Expr}{q:Pos}{r:DK}(h:cutS R V o lo hi st=some r):EvS g n V (.Subscript o (.Slice lo hi st q) p) r.1 r.2 :=
 bd h λl hl h=>bd h λu hh h=>aE h (λx k ho h=>noOE (P:=λst=>EvS g n V (.Subscript o (.Slice lo hi st q) p) r.1 r.2) h λh=>sm (P:=λr:DK=>EvS g n V (.Subscript o (.Slice lo hi none q) p) r.1 r.2) (gd h).2 (vH (ok.e _ _ _ _ ho) (iP ok hl) (iP ok hh) (gd h).1))
  λxs k ho h=>bd h λt ht h=>sm (P:=λr:DK=>EvS g n V (.Subscript o (.Slice lo hi st q) p) r.1 r.2) (gd h).2 (rJ (ok.e _ _ _ _ ho) (iP ok hl) (iP ok hh) (iP ok ht) (gd h).1.2 (by rw [Nat.sub_eq_zero_of_le (gd h).1.1]; exact Nat.zero_le _))
theorem subE_ok (ok:R.Ok g n){o i:Expr}{r:DK}(h:subE R V o i=some r):EvS g n V (.Subscript o i p) r.1 r.2:=by
 cases i with
 | Slice lo hi st q =>
  have h:cutE R V o lo hi st=some r:=h
  exact fP h (λa ha z=>(show a=r from z) ▸ cutS_ok ok ha) λh=>no h
 | _=>exact idxE_ok ok h
theorem w6 (ok:R.Ok g n){mk:List D->D}{es:List Expr}{r:DK}(x:∀{ds},EvsS g n V es ds 0->ds.length<=cap->EvS g n V e (mk ds) 0)(h:seqE R V mk es=some r):EvS g n V e r.1 r.2 :=
 bd (gd h).2 λvs hv h'=>sm (P:=λr:DK=>EvS g n V e r.1 r.2) (gd h').2 (x (jY ok hv (gd h).1 (yI (gd h').1.1)) (by rw [List.length_map]; exact(gd h').1.2))
theorem stepV_ok (hn:1<=n){T:Tab}(N:Names g)(tok:TabOk T g n)(ok:R.Ok g n){r:DK}(h:wV T R V e=some r):EvS g n V e r.1 r.2:=by
 cases e with
 | Constant=>exact zR h
 | Name x p=>exact fi (show nameE V x=some r from h) (λzw h=>no h) λe h=>bE h (Bool.eq_false_iff.mpr e)
 | BinOp l op q=>exact vE (show binE R V l q op=some r from h) λa k ha h=>vE h λb kb hb h=>ev_bin (ok.e _ _ _ _ ha) (ok.e _ _ _ _ hb) (v7 h)
 | UnaryOp=>exact unE_ok ok h
 | Compare=>exact cmpE_ok hn ok h
 | BoolOp=>exact boolE_ok ok h
 | IfExp c a b =>
  refine bd (show ifE R V c a b=some r from h) λt ht h=>?_
  cases t with
  | true=>exact tB (ok.t _ _ _ ht) (λzw=>ok.e _ _ _ _ h) nofun
  | false=>exact tB (ok.t _ _ _ ht) nofun λzw=>ok.e _ _ _ _ h
 | List es p=>exact w6 ok (λx z=>jB (k:=0) x z) h
 | Tuple es q p=>exact w6 ok (λx z=>ev_tup (k:=0) x z) h
 | Subscript=>exact subE_ok ok h
 | Call f args kws pos =>
  refine l0E (P:=λkws=>EvS g n V (.Call f args kws pos) r.1 r.2) (show l0 (callX T R V args pos f) kws=some r from h) λh=>?_
  have h:callX T R V args pos f=some r:=h
  cases f with
  | Attribute o m ap=>exact methE_ok ok (gd (show(if eS o=true/\(ap.endLine==pos.line)=true then methE R V o m args else none)=some r from h)).2 (gd h).1.1 (gd h).1.2
  | Name f q=>exact callE_ok N tok ok h
  | _=>exact no h
 | ListComp=>exact compG_ok ok h
 | _=>exact no h
theorem dH {T:Tab}(hn:1<=n)(N:Names g)(tok:TabOk T g n):∀m,(Ev.at T m).Ok g n
 | 0=>⟨λzw zw zw zw h=>no h,λzw zw zw h=>no h,λzw zw zw zw h=>no h⟩
 | m+1=>⟨λV e d k h=>fP h (λa ha z=>tok.hook _ _ _ _ (ha.trans (congrArg some z))) λh=>stepV_ok hn N tok (dH hn N tok m) h,
  λV e b h=>stepT_ok hn (dH hn N tok m) h,λV tt e ds h=>stepI_ok N (dH hn N tok m) h⟩
end
end
set_option backward.match.sparseCases false
noncomputable def putL {β:Type} (x:Str) (p:β):List (Str×β)->List (Str×β)
 | []=>[(x,p)]
 | (y,q)::r=>if y==x then (y,p)::r else (y,q)::putL x p r
theorem bT {β:Type}(x:Str)(p:β)(y:Str):∀(l:List (Str×β)),(putL x p l).lookup y=if y==x then some p else l.lookup y
 | []=>by
  unfold putL
  rw [List.lookup_cons]
  cases y==x <;> rfl
 | (z,q)::r=>by
  unfold putL
  cases hz:z==x with
  | true =>
   have:=beq_iff_eq.mp hz; subst this
   simp only [if_true,List.lookup_cons]
   cases hy:y==z <;> simp
  | false =>
   simp only [Bool.false_eq_true,if_false,List.lookup_cons]
   rw [bT x p y r]
   cases hy:y==z with
   | true =>
    have:=beq_iff_eq.mp hy; subst this
    rw [hz]; rfl
   | false=>rfl
noncomputable def Rho.put (V:Rho) (x:Str) (d:D) (k:Nat):Rho:={ V with vars:=putL x (d,k) V.vars }
structure Same (V V':Rho):Prop where
 sc:V'.sc=V.sc
 vars:∀x,V'.vars.lookup x=V.vars.lookup x
theorem Same.refl:Same V V:=⟨rfl,λzw=>rfl⟩
theorem Same.put (h:Same V V')(x:Str)(d:D)(k:Nat):Same (V.set x d k) (V'.put x d k):=⟨h.sc,λy=>by
 show(putL x (d,k) V'.vars).lookup y=((x,(d,k))::V.vars).lookup y
 rw [bT,List.lookup_cons,h.vars]
 cases y==x <;> rfl⟩
theorem EnvOk.same (e:EnvOk O M V env h)(s:Same V V'):EnvOk O M V' env h :=
 ⟨e.kind,e.gl,e.bl,e.sc.trans s.sc.symm,e.apart,λx d k hx=>e.vars x d k ((s.vars x).symm.trans hx)⟩
noncomputable def bN (V:Rho):List Str->List D->Option Rho
 | [],[]=>some V
 | x::xs,d::ds=>bN (V.put x d 0) xs ds
 | _,_=>none
theorem iN:∀(xs:List Str) (ds:List D) (V0 V V':Rho),Same V0 V->bN V xs ds=some V'->∃V'',cR V0 xs ds=some V''/\Same V'' V'
 | [],[],V0,V,V',s,h=>by cases h; exact⟨V0,rfl,s⟩
 | [],_::_,_,_,_,_,h=>by cases h
 | _::_,[],_,_,_,_,h=>by cases h
 | x::xs,d::ds,V0,V,V',s,h=>iN xs ds (V0.set x d 0) (V.put x d 0) V' (s.put x d 0) h
theorem uS {P:Expr->Prop}(h:aW e=some x)(k:∀p,P (.Name x p)):P e:=qW h λy p h=>sm (P:=λx=>(∀p,P (.Name x p))->P (.Name y p)) h (λk=>k p) k
noncomputable def jT (V:Rho):Expr->D->Option Rho
 | .Name x _=>λd=>some (V.put x d 0)
 | .Tuple es _ _=>onT λds=>(es.mapM aW).bind λxs=>bN V xs ds
 | _=>λzw=>none
theorem mV {t:Expr}(h:jT V t d=some V'):∃V'',jG V t d=some V''/\Same V'' V':=by
 cases t with
 | Name x p=>exact⟨_,rfl,sm h (Same.refl.put _ _ _)⟩
 | Tuple es k p =>
  exact onT_el (P:=λd=>∃V'',jG V (.Tuple es k p) d=some V''/\Same V'' V') h λds h=>bd h λxs hx h=>(iN _ _ V V V' Same.refl h).elim λV'' z=>⟨V'',by
   show(List.mapM aW es).bind _=_
   rw [hx]; exact z.1,z.2⟩
 | _=>exact no h
inductive Fl where
 | next | brk | cont
 | ret (d:D)
noncomputable def stOk (V:Rho) (x:Str):Bool:=V.sc.lookup x==some .local || V.sc.lookup x==some .cell
noncomputable def fQ (V:Rho) (x:Str):Bool:=V.vars.all λp=>p.1==x || p.2.2==0
noncomputable def cE (V:Rho) (scope:Scope) (x:Str) (npos cp:Pos):Bool:=V.sc.lookup x==some .local && npos.line==cp.line && !(scope.names.any λp=>p.1==x && (p.2==.local || p.2==.cell))
noncomputable def augD:Operator->D->D->Option D
 | .Add=>λa b=>onD (λx=>onI (λy=>some (.int (x+y))) b) (λx=>onS (λy=>if x.length+y.length<=cap then some (.str (x++y)) else none) b) (λzw=>none) a
 | .Sub=>λa b=>onI (λx=>onI (λy=>some (.int (x - y))) b) a
 | _=>λzw zw=>none
noncomputable def go (k:Rho->Option (Fl×Rho)) (r:Fl×Rho):Option (Fl×Rho):=match r.1 with
 | .next=>k r.2
 | .brk=>some (.next,r.2)
 | .cont=>k r.2
 | .ret d=>some (.ret d,r.2)
theorem go_el {k:Rho->Option (Fl×Rho)}{r:Fl×Rho}{f:Fl}(h:go k r=some (f,V')):((r.1=.next\/r.1=.cont)/\k r.2=some (f,V'))\/(r.1=.brk/\f=.next/\V'=r.2)\/∃d,r.1=.ret d/\f=.ret d/\V'=r.2:=by
 obtain⟨a,V2⟩:=r
 cases a with
 | next=>exact .inl ⟨.inl rfl,h⟩
 | cont=>exact .inl ⟨.inr rfl,h⟩
 | brk=>cases h; exact .inr (.inl ⟨rfl,rfl,rfl⟩)
 | ret d=>cases h; exact .inr (.inr ⟨_,rfl,rfl,rfl⟩)
noncomputable def thn (k:Rho->Option (Fl×Rho)) (r:Fl×Rho):Option (Fl×Rho):=match r.1 with
 | .next=>k r.2
 | .brk=>some r
 | .cont=>some r
 | .ret _=>some r
noncomputable def gM (X:Rho->List Stmt->Option (Fl×Rho)) (target:Expr) (body:List Stmt):List D->Rho->Option (Fl×Rho)
 | [],V=>some (.next,V)
 | d::ds,V=>(jT V target d).bind λV1=>(X V1 body).bind (go λV=>gM X target body ds V)
noncomputable def put0 (V:Rho) (x:Str) (r:Option DK):Option Rho:=dkV r λd k=>if k=0 then some (V.put x d 0) else none
theorem put0E {r:Option DK}{P:Rho->Prop}(h:put0 V x r=some V')(k:∀d,r=some (d,0)->P (V.put x d 0)):P V' :=
 vE h λd kk e h=>sm (gd h).2 (k d ((gd h).1 ▸ e))
noncomputable def fO (e:Expr):Bool:=e.ctorIdx != 8 && e.ctorIdx != 9 && e.ctorIdx != 10
noncomputable def asgC (R:Ev) (V:Rho) (x:Str) (npos:Pos) (e:Expr):Option Rho:=xS (λelt gens scope cp=>put0 V x (if cE V scope x npos cp=true then zT R V elt scope gens else R.e V (.ListComp elt gens scope cp))) e
noncomputable def oH (R:Ev) (V:Rho) (x:Str) (npos:Pos) (v:Expr):Option Rho :=
 if stOk V x=true then if fO v=true then put0 V x (R.e V v) else asgC R V x npos v else none
noncomputable def isTuple (e:Expr):Bool:=e.ctorIdx==25
noncomputable def uU (V:Option Rho):Option (Fl×Rho):=V.bind λV=>some (.next,V)
noncomputable def nmP (e:Expr):Option (Str×Pos):=onNm (λx p=>some (x,p)) e
theorem nmP_inv {x:Str×Pos}(h:nmP e=some x):e=.Name x.1 x.2:=qW (P:=λe=>e=.Name x.1 x.2) h λy p h=>sm (P:=λx:Str×Pos=>Expr.Name y p=.Name x.1 x.2) h rfl
noncomputable def oK (R:Ev) (X:Rho->List Stmt->Option (Fl×Rho)) (V:Rho) (t:Expr) (b:List Stmt) (p:Pos):Option (Fl×Rho) :=
 (R.t V t).bind λc=>if c=true then (X V b).bind (go λV'=>X V' [.While t b [] p]) else some (.next,V)
noncomputable def forE (R:Ev) (X:Rho->List Stmt->Option (Fl×Rho)) (V:Rho) (target iter:Expr) (body:List Stmt):Option (Fl×Rho) :=
 (aR target).bind λxs=>if dE iter=true/\xs.all (stOk V)=true then (R.i V (ttOf target) iter).bind λitems=>gM X target body items V else none
noncomputable def asg2E (R:Ev) (V:Rho) (x y:Str) (v:Expr):Option (Fl×Rho):=if stOk V x=true/\stOk V y=true/\fO v=true/\isTuple v=false then dkV (R.e V v) λd k=>if k=0 then some (.next,(V.put x d 0).put y d 0) else none else none
noncomputable def setE (R:Ev) (V:Rho) (x:Str) (i v:Expr):Option (Fl×Rho):=if fO v=true/\dE i=true/\fQ V x=true/\SubS.notSlice i=true/\(x==("__debug__":Str))=false then
 dkV (R.e V v) λd k=>dkL (V.vars.lookup x) λxs k'=>dkI (R.e V i) λz zw=>if k=0/\k'=1/\0<=z/\z < xs.length then some (.next,V.put x (.list (xs.set z.toNat d)) 1) else none else none
noncomputable def asg1 (R:Ev) (V:Rho) (v e:Expr):Option (Fl×Rho) :=
 if h:e.ctorIdx=21 then Expr.Subscript.elim (motive_1:=λzw=>Option (Fl×Rho)) e h λo i zw=>(aW o).bind λx=>setE R V x i v
 else onNm (λx npos=>uU (oH R V x npos v)) e
noncomputable def asgE (R:Ev) (V:Rho) (v:Expr):List Expr->Option (Fl×Rho):=l12 (asg1 R V v) λt t'=>(aW t).bind λx=>(aW t').bind λy=>asg2E R V x y v
noncomputable def augE (R:Ev) (V:Rho) (x:Str) (op:Operator) (v:Expr):Option (Fl×Rho):=if stOk V x=true then dkV (V.vars.lookup x) λa k=>dkV (R.e V v) λb zw=>if k=0 then (augD op a b).bind λd=>some (.next,V.put x d 0) else none else none
noncomputable def appE (R:Ev) (V:Rho) (x m:Str) (ap cp:Pos) (a:Expr):Option (Fl×Rho):=if (m==("append":Str))=true/\aQ a=true/\fQ V x=true/\(x==("__debug__":Str))=false/\(ap.endLine==cp.line)=true then
 dkL (V.vars.lookup x) λxs k=>dkV (R.e V a) λd k'=>if k=1/\k'=0/\xs.length+1<=cap then some (.next,V.put x (.list (xs++[d])) 1) else none else none
noncomputable def appF (R:Ev) (V:Rho) (as:List Expr) (ks:List Keyword) (cp:Pos) (e:Expr):Option (Fl×Rho):=xU (λo m ap=>(aW o).bind λx=>l0 (l1 (appE R V x m ap cp) as) ks) e
noncomputable def exprE (R:Ev) (V:Rho) (e:Expr):Option (Fl×Rho):=sN (λf as ks cp=>appF R V as ks cp f) e
noncomputable def retE (R:Ev) (V:Rho) (e:Option Expr):Option (Fl×Rho):=e.bind λe=>dkV (R.e V e) λd zw=>some (.ret d,V)
noncomputable def iffE (R:Ev) (X:Rho->List Stmt->Option (Fl×Rho)) (V:Rho) (t:Expr) (b o:List Stmt):Option (Fl×Rho):=(R.t V t).bind λc=>if c=true then X V b else X V o
noncomputable def bB (R:Ev) (X:Rho->List Stmt->Option (Fl×Rho)) (V:Rho):Stmt->Option (Fl×Rho)
 | .Pass _=>some (.next,V)
 | .Break _=>some (.brk,V)
 | .Continue _=>some (.cont,V)
 | .Return e _=>retE R V e
 | .If t b o _=>iffE R X V t b o
 | .While t b o p=>l0 (oK R X V t b p) o
 | .For target iter body o _=>l0 (forE R X V target iter body) o
 | .Assign ts v _=>asgE R V v ts
 | .AugAssign t op v _=>(aW t).bind λx=>augE R V x op v
 | .Expr e _=>exprE R V e
 | _=>none
noncomputable def run (R:Ev):Nat->Rho->List Stmt->Option (Fl×Rho)
 | 0,_,_=>none
 | n+1,V,ss=>match ss with
  | []=>some (.next,V)
  | st::rest=>(bB R (run R n) V st).bind (thn λV'=>run R n V' rest)
structure Pl (g:Glob) (O M P:Avoid) (env:Env):Prop where
 store:∀x,d7 env x->P (fK env x)
 po:∀b,P b->O b
 pg:∀b o,g.h.get? b=some o->¬P b/\¬M b
 live:∀(t:Shared),FrameOk env t.heap->∀b,P b->∃o,t.heap.get? b=some o
structure Act (g:Glob) (O M:Avoid) (V:Rho) (env:Env) (s:Shared):Prop where
 up:g.Up s
 aO:Alloc O s
 aM:Alloc M s
 eo:EnvOk O M V env s.heap
 fo:FrameOk env s.heap
theorem Act.keeps (a:Act g O M V env s)(k:Keeps s s'):Act g O M V env s':=⟨a.up.keeps k,a.aO.keeps k,a.aM.keeps k,a.eo.keeps (aA k),a.fo.keeps (aA k)⟩
noncomputable def FlOk (O M:Avoid) (h:Heap):Fl->Flow->Prop
 | .next,f=>f=.next
 | .brk,f=>f=.brk
 | .cont,f=>f=.cont
 | .ret d,f=>∃v k,f=.ret v/\Rd O M h k v d
noncomputable abbrev PM (P M:Avoid):Avoid:=λb=>P b\/M b
noncomputable def StS (g:Glob) (n:Nat) (V:Rho) (st:Stmt) (f:Fl) (V':Rho):Prop :=
 ∀(O M P:Avoid) (env:Env) (A:Around) (s:Shared) (E:Value->Shared->Prop) (Q:Flow->Shared->Prop),Pl g O M P env->Room n A->Act g O M V env s →
  (∀fl s',FlOk O M s'.heap f fl->Chg (PM P M) s s'->Act g O M V' env s'->Q fl s')->wpAny g.M A (exec st env) Q E s
noncomputable def RunS (g:Glob) (n:Nat) (V:Rho) (ss:List Stmt) (f:Fl) (V':Rho):Prop :=
 ∀(O M P:Avoid) (env:Env) (A:Around) (s:Shared) (E:Value->Shared->Prop) (Q:Flow->Shared->Prop),Pl g O M P env->Room n A->Act g O M V env s →
  (∀fl s',FlOk O M s'.heap f fl->Chg (PM P M) s s'->Act g O M V' env s'->Q fl s')->wpAny g.M A (execs ss env) Q E s
section
theorem m8 (eo:EnvOk O M V env h)(hx:stOk V x=true):d7 env x:=by
 unfold stOk at hx
 simp only [Bool.or_eq_true,beq_iff_eq] at hx
 unfold d7 Env.kindOf
 rw [eo.sc]; exact hx
theorem cS {P:Avoid}{Q:Unit->Shared->Prop}(pl:Pl g O M P env)(a:Act g O M V env s)(hx:stOk V x=true)(r:Rd O M s.heap 0 v d)
  (q:∀s',Chg P s s'->Act g O M (V.put x d 0) env s'->(∀b c us n,s.heap.get? b=some { cls:=c,data:=.seq us n }->s'.heap.get? b=some { cls:=c,data:=.seq us n })->Q () s'):wpAny g.M A (storeName env x v) Q E s:=by
 have hs:=m8 a.eo hx
 refine iD a.eo a.fo hs r (λz=>absurd rfl z) λh' tk st eo' fo'=>?_
 have ch:Chg P s { s with heap:=h',toks:=tk }:=⟨⟨h',tk,rfl⟩,λb o hb e=>st.same.extBut b o (λz=>hb (z ▸ pl.store x hs)) e⟩
 have lv:=pl.live { s with heap:=h',toks:=tk } fo'
 exact q _ ch ⟨ch.up a.up λb o e=>(pl.pg b o e).1,ch.alloc a.aO λb zw hb=>lv b hb,ch.alloc a.aM λb zw hb=>lv b hb,eo'.same (Same.refl.put _ _ _),fo'⟩ st.seqs
theorem gH {P:Avoid}{Q:Unit->Shared->Prop}{t:Expr}{xs:List Str}(hh:A.handled=none)(pl:Pl g O M P env)(a:Act g O M V env s)(hn:aR t=some xs)(hx:xs.all (stOk V)=true)(r:Rd O M s.heap 0 v d)(hb:jT V t d=some V')
  (q:∀s',Chg P s s'->Act g O M V' env s'->Q () s'):wpAny g.M A (assign t env v) Q E s:=by
 obtain⟨V'',h1,h2⟩:=mV hb
 refine oJ (P:=P) hh h1 hn (λx hx'=>?_) a.eo a.fo r λs' ch sq eo' fo'=>?_
 ·have:=m8 a.eo (List.all_eq_true.mp hx x hx')
  exact⟨this,pl.store x this⟩
 ·have lv:=pl.live s' fo'
  exact q _ ch ⟨ch.up a.up λb o e=>(pl.pg b o e).1,ch.alloc a.aO λb zw hb=>lv b hb,ch.alloc a.aM λb zw hb=>lv b hb,eo'.same h2,fo'⟩
theorem EvS.act (x:EvS g n V e d k)(rm:Room n A)(a:Act g O M V env s)
  (q:∀v s',Keeps s s'->Rd O M s'.heap k v d->Act g O M V env s'->Q v s'):wpAny g.M A (eval e env) Q E s :=
 wpAny_mono (x O M env A s E a.up rm a.aO a.aM a.eo) (λv s' ⟨k,r⟩=>q v s' k r (a.keeps k)) λzw zw z=>z
theorem TestS.act {b:Bool}(x:TestS g n V e b){Q:Bool->Shared->Prop}(rm:Room n A)(a:Act g O M V env s)
  (q:∀s',Keeps s s'->Act g O M V env s'->Q b s'):wpAny g.M A (isTrue e env (eval e env)) Q E s :=
 wpAny_mono (x O M env A s E a.up rm a.aO a.aM a.eo) (λc s' ⟨k,hb⟩=>by subst hb; exact q s' k (a.keeps k)) λzw zw z=>z
theorem Chg.pm {P:Avoid}(c:Chg P s s'):Chg (PM P M) s s':=c.mono λb h=>.inl h
theorem Chg.ofK {P:Avoid}(c:Keeps s s'):Chg P s s':=Chg.of_keeps c
theorem st_pass:StS g n V (.Pass p) .next V:=λO M P env A s E Q pl rm a q=>wpAny_Pass (q _ _ rfl Chg.refl a)
theorem st_break:StS g n V (.Break p) .brk V:=λO M P env A s E Q pl rm a q=>by
 show wpAny g.M A (do standAt p; pure .brk) Q E s
 exact wpAny_bind (wpAny_standAt (wpAny_pure (q _ _ rfl Chg.refl a)))
theorem st_cont:StS g n V (.Continue p) .cont V:=λO M P env A s E Q pl rm a q=>by
 show wpAny g.M A (do standAt p; pure .cont) Q E s
 exact wpAny_bind (wpAny_standAt (wpAny_pure (q _ _ rfl Chg.refl a)))
theorem st_ret (x:EvS g n V e d k):StS g n V (.Return (some e) p) (.ret d) V:=λO M P env A s E Q pl rm a q =>
 wpAny_Return_some (x.act rm a λv s' k r a'=>q _ _ ⟨v,_,rfl,r⟩ (Chg.ofK k) a')
theorem st_if {t:Expr}{b o:List Stmt}{c:Bool}{f:Fl}(x:TestS g n V t c)(y:c=true->RunS g n V b f V')(z:c=false->RunS g n V o f V'):StS g n V (.If t b o p) f V':=λO M P env A s E Q pl rm a q=>by
 refine wpAny_If (x.act rm a λs' k a'=>?_)
 cases c with
 | true=>exact y rfl O M P env A s' E Q pl rm a' λfl s'' h1 h2 h3=>q fl s'' h1 ((Chg.ofK k).trans h2) h3
 | false=>exact z rfl O M P env A s' E Q pl rm a' λfl s'' h1 h2 h3=>q fl s'' h1 ((Chg.ofK k).trans h2) h3
theorem run_nil:RunS g n V [] .next V:=λO M P env A s E Q pl rm a q=>wpAny_execs_nil (q _ _ rfl Chg.refl a)
theorem run_cons {st:Stmt}{ss:List Stmt}{f:Fl}{V1 V2:Rho}(x:StS g n V st .next V1)(y:RunS g n V1 ss f V2):RunS g n V (st::ss) f V2:=λO M P env A s E Q pl rm a q =>
 wpAny_execs_cons (x O M P env A s E _ pl rm a λfl s' h1 h2 h3=>by
  cases h1
  exact y O M P env A s' E Q pl rm h3 λfl s'' g1 g2 g3=>q fl s'' g1 (h2.trans g2) g3)
theorem run_stop {st:Stmt}{ss:List Stmt}{f:Fl}{V1:Rho}(x:StS g n V st f V1)(hf:f≠.next):RunS g n V (st::ss) f V1:=λO M P env A s E Q pl rm a q =>
 wpAny_execs_cons (x O M P env A s E _ pl rm a λfl s' h1 h2 h3=>by
  cases f with
  | next=>exact absurd rfl hf
  | brk=>cases h1; exact q _ _ rfl h2 h3
  | cont=>cases h1; exact q _ _ rfl h2 h3
  | ret d=>obtain⟨v,k,rfl,r⟩:=h1; exact q _ _ ⟨v,k,rfl,r⟩ h2 h3)
theorem aJ {v:Expr}(h:fO v=true)(t:Option Expr)(l:Nat)(env:Env):swapsWith v t l env=pure false:=by
 cases v <;> first | rfl | exact nb h | cases h
theorem oR {v:Expr}(hx:stOk V x=true)(hv:∀(O M:Avoid) (env:Env) (h:Heap),EnvOk O M V env h->swapsWith v (some (.Name x np)) p.line env=pure false)(e:EvS g n V v d 0):StS g n V (.Assign [.Name x np] v p) .next (V.put x d 0):=λO M P env A s E Q pl rm a q =>
 wpAny_Assign_Name (e.act rm a λw s' k r a'=>cS pl a' hx r λs'' c a'' zw=>q _ _ rfl ((Chg.ofK k).trans c.pm) a'') (hv O M env _ a.eo)
theorem tZ {y:Str}{nx ny:Pos}{v:Expr}(hx:stOk V x=true)(hy:stOk V y=true)(hv:isTuple v=false)(e:EvS g n V v d 0):StS g n V (.Assign [.Name x nx,.Name y ny] v p) .next ((V.put x d 0).put y d 0):=λO M P env A s E Q pl rm a q=>by
 refine wpAny_Assign_two (e.act rm a λw s' k r a'=>wpAny_assign_Name (cS pl a' hx r λs_1 c1 a1 sq=>wpAny_assign_Name (cS pl a1 hy (r.seqs sq) λs2 c2 a2 zw=>q _ _ rfl ((Chg.ofK k).trans (c1.pm.trans c2.pm)) a2))) rfl ?_
 cases v <;> first | rfl | exact nb hv | cases hv
end
set_option backward.match.sparseCases true
theorem i4 {M':Model}(hk:env.scope.kind=.function)(hv:VarAt env s.heap x v)(q:Q v s):wpAny M' A (loadName env x) Q E s:=by
 rcases hv with ⟨a,m,b,c⟩ | ⟨a | ⟨a,a'⟩,c,b,e⟩
 ·exact wpAny_loadName_local hk a b c q
 ·exact wpAny_loadName_cell hk a b e q
 ·exact wpAny_loadName_free hk a b e q a'
theorem aug_ok {op:Operator}{a b:D}{va vb:Value}{ka kb:Nat}(h:augD op a b=some d)(ra:Rd O M s.heap ka va a)(rb:Rd O M s.heap kb vb b)
  (q:∀v s',Keeps s s'->Rd O M s'.heap 0 v d->Q v s'):wpAny g.M A (inplaceOp op va vb) Q E s:=by
 cases op <;> try exact no h
 ·refine kO (P:=λa=>Rd O M s.heap ka va a->wpAny g.M A (inplaceOp .Add va vb) Q E s) h (λx h ra=>?_) (λx h ra=>?_) (λzw h=>no h) ra
  ·refine cH (P:=λb=>Rd O M s.heap kb vb b->wpAny g.M A (inplaceOp .Add va vb) Q E s) h (λy h rb=>?_) rb
   obtain⟨t,rfl⟩:=aH ra; obtain⟨u,rfl⟩:=aH rb
   exact PySem.P.iadd_int (q _ _ (aG s _) (sm h .int))
  ·refine jM (P:=λb=>Rd O M s.heap kb vb b->wpAny g.M A (inplaceOp .Add va vb) Q E s) h (λy h rb=>?_) rb
   obtain⟨t,rfl⟩:=dR ra; obtain⟨u,rfl⟩:=dR rb
   exact SB.iadd (λt' k=>q _ _ (aG s _) (sm (gd h).2 .str)) (Nat.le_trans (gd h).1 bI)
 ·refine cH (P:=λa=>Rd O M s.heap ka va a->wpAny g.M A (inplaceOp .Sub va vb) Q E s) h (λx h ra=>?_) ra
  refine cH (P:=λb=>Rd O M s.heap kb vb b->wpAny g.M A (inplaceOp .Sub va vb) Q E s) h (λy h rb=>?_) rb
  obtain⟨t,rfl⟩:=aH ra; obtain⟨u,rfl⟩:=aH rb
  exact PySem.P.isub_int (q _ _ (aG s _) (sm h .int))
section
theorem st_aug {op:Operator}{v:Expr}{a b:D}(hx:stOk V x=true)(hl:V.vars.lookup x=some (a,0))(e:EvS g n V v b k)(h:augD op a b=some d):StS g n V (.AugAssign (.Name x np) op v p) .next (V.put x d 0):=λO M P env A s E Q pl rm ac q=>by
 obtain⟨w,hw,hr,_⟩:=ac.eo.vars x a 0 hl
 refine wpAny_AugAssign_Name (i4 ac.eo.kind hw (e.act rm ac λu s_1 k1 r1 a1=>aug_ok h (hr.keeps (aA k1)) r1 λz s2 k2 r2=>?_))
 exact cS pl (a1.keeps k2) hx r2 λs3 c3 a3 zw=>q _ _ rfl ((Chg.ofK k1).trans ((Chg.ofK k2).trans c3.pm)) a3
theorem sK {xs:List D}(a:Act g O M V env s)(hl:V.vars.lookup x=some (.list xs,1)) :
  ∃l vs m,VarAt env s.heap x (.ref l)/\(∀b,M b↔b=l)/\IsL s.heap l vs m/\vs.size<=cap/\Rds O M s.heap 0 vs.toList xs/\¬O l:=by
 obtain⟨v,hv,hr,ho⟩:=a.eo.vars x _ 1 hl
 obtain⟨l,rfl,hm⟩:=ho (by decide)
 obtain⟨l',vs,m,e,h1,h2,h3,h4,_⟩:=bC hr
 cases e
 exact⟨l,vs,m,hv,hm,h2,h1,h3,h4⟩
theorem AM {P:Avoid}{ys:List D}{l:Addr}{vs vs':Array Value}{m m':Nat}(pl:Pl g O M P env)(a:Act g O M V env s)(h1:fQ V x=true)(hv:VarAt env s.heap x (.ref l))(hm:∀b,M b↔b=l)(hI:IsL s.heap l vs m)(hO:¬O l)
  (hs:Heap.SameBut l s.heap h') (hI':IsL h' l vs' m') (hz:vs'.size<=cap) (r:Rds O M s.heap 0 vs'.toList ys) :
  Chg (PM P M) s { s with heap:=h' }/\Act g O M (V.put x (.list ys) 1) env { s with heap:=h' }:=by
 have ch:Chg (λb=>b=l) s { s with heap:=h' }:=⟨⟨h',s.toks,rfl⟩,λb o hb e=>hs.extBut b o hb e⟩
 have kd:∀b,b=l->∃o,s.heap.get? b=some o/\isFS o=true:=λb hb=>by subst hb; exact⟨_,hI,rfl⟩
 have lv:∀b,b=l->∃o,({ s with heap:=h' }:Shared).heap.get? b=some o:=λb hb=>by subst hb; exact⟨_,hI'⟩
 have keep:∀b c us n,¬M b->s.heap.get? b=some { cls:=c,data:=.seq us n }->h'.get? b=some { cls:=c,data:=.seq us n }:=λb c us n hb e=>hs.extBut b _ (λz=>hb ((hm b).mpr z)) e
 have var:∀y v,VarAt env s.heap y v->VarAt env h' y v:=λy v hy=>by
  rcases hy with ⟨a,m,b,c⟩ | ⟨a,c,b,d⟩
  ·exact .inl ⟨a,m,xY b ch kd,c⟩
  ·exact .inr ⟨a,c,b,oF d ch kd⟩
 refine⟨ch.mono λb hb=>.inr ((hm b).mpr hb),ch.up a.up λb o e z=>(pl.pg b o e).2 ((hm b).mpr z),ch.alloc a.aO λb zw hb=>lv b hb,ch.alloc a.aM λb zw hb=>lv b hb,⟨a.eo.kind,a.eo.gl,a.eo.bl,a.eo.sc,a.eo.apart,λy d k hy=>?_⟩,a.fo.chgW ch kd⟩
 have hy:(putL x (.list ys,1) V.vars).lookup y=some (d,k):=hy
 rw [bT] at hy
 cases hb:y==x with
 | true =>
  have:=beq_iff_eq.mp hb; subst this
  rw [hb] at hy; cases hy
  exact⟨_,var _ _ hv,.list hO (λz=>by cases z) hz hI' (r.but keep rfl),λzw=>⟨l,rfl,hm⟩⟩
 | false =>
  rw [hb] at hy
  obtain⟨v,g1,g2,g3⟩:=a.eo.vars y d k hy
  have hk:k=0:=by
   have:=List.all_eq_true.mp h1 _ (mem_of_lookup hy)
   simp only [hb,Bool.false_or,beq_iff_eq] at this
   exact this
  exact⟨v,var _ _ g1,g2.but keep hk,g3⟩
theorem wX {ap:Pos}{m:Str}{xs:List D}(hm:(m==("append":Str))=true)(hs:aQ e=true)(h1:fQ V x=true)(hd:(x==("__debug__":Str))=false)(hln:(ap.endLine==cp.line)=true)(hl:V.vars.lookup x=some (.list xs,1))(ev:EvS g n V e d 0)(hc:xs.length+1<=cap) :
  StS g n V (.Expr (.Call (.Attribute (.Name x np) m ap) [e] [] cp) p) .next (V.put x (.list (xs++[d])) 1):=λO M P env A s E Q pl rm a q=>by
 have:=beq_iff_eq.mp hm; subst this
 obtain⟨l,vs,q1,hv,hM,hI,hz,hr,hO⟩:=sK a hl
 have hst:starEach [e] env=[(false,eval e env)]:=dD hs
 have hi:interactive env=false:=by unfold interactive; rw [a.eo.kind]; rfl
 refine wpAny_Expr_any (prog:=g.prog) (w:=g.w) ?_ hi (aJ rfl _ _ _)
 refine Call_method1 (mY rfl) hst hln (wpAny_Name (i4 a.eo.kind hv ?_) hd)
 refine⟨"list","list.append",F.plainAttrs_list,F.slot_list_append,F.type_list_append,⟨_,hI,rfl⟩,λb hb=>⟨_,by cases hb; exact hI,rfl⟩,?_⟩
 refine PySem.P.append_list (ev.act rm a λv s_1 k1 r1 a1=>?_)
 have hI1:=aA k1 _ _ hI
 have hr1:=hr.keeps (aA k1)
 have hl':=hr.length
 rw [Array.length_toList] at hl'
 have hv1:=hv.keeps (aA k1)
 refine⟨vs,q1,Nat.le_trans hz bI,hI1,?_⟩
 obtain⟨c,a'⟩:=AM (ys:=xs++[d]) pl a1 h1 hv1 hM hI1 hO (Heap.SameBut.update ..) (IsL.update hI1 (λus=>us.push v)) (by rw [Array.size_push]; grind) (by rw [Array.toList_push]; exact hr1.append (.cons r1 .nil))
 exact q _ _ rfl ((Chg.ofK k1).trans c) a'
theorem l8 {prog:Program}{w:World}{l:Addr}{items:Array Value}{k:Int}{t:Tok}{Q:Unit->Shared->Prop}(hl:IsL s.heap l items n)(h0:0<=k)(hfit:k < 2 ^ 63)(hn:k < items.size)
  (hQ:∀h' n',IsL h' l (items.setIfInBounds k.toNat v) n'->Heap.SameBut l s.heap h'->Q () { s with heap:=h' }):wpAny (model prog w) A (setItem (.ref l) (.int k t) v) Q E s:=by
 have hT:s.TypeIs (.ref l) "list":=⟨_,hl,rfl⟩
 unfold setItem
 try with_reducible refine wpAny_holding ?_
 first | refine wpAny_bind (wpAny_pure ?_) | skip
 refine wpAny_bind (wpAny_sequenceKey hT (by decide) ?_)
 refine wpAny_bind (wpAny_callSpecial?_slot (name:=Str.ofString "__setitem__") hT slot_list_setitem
  (wpAny_call_entry slot_list_setitem hT entry_list_setitem ?_ (args_list_setitem _ _ _)))
 show wpAny _ _ (Builtin.List.listSubscript? (.int k t) >>= _) _ _ s
 refine wpAny_bind (wpAny_listSubscript_int (fitsIndex_of h0 hfit) ?_)
 clear hfit
 obtain⟨j,rfl⟩:=Int.eq_ofNat_of_zero_le h0
 have hj:j < items.size:=by omega
 have hx':items[j]?=some items[j]:=Array.getElem?_eq_getElem hj
 show wpAny _ _ ((seqItemAt l j >>= λr=>pure (r.map (j,·))) >>= _) _ _ s
 refine wpAny_bind (wpAny_bind (wpAny_seqItemAt hl rfl (wpAny_pure ?_)))
 rw [hx']
 show wpAny _ _ (setSeqItemAt l j v >>= _) _ _ s
 have hfin:=IsL.update hl (·.setIfInBounds j v)
 refine wpAny_bind (wpAny_setSeqItemAt hl rfl ?_)
 first
  | exact wpAny_bind (wpAny_pure (wpAny_pure ⟨.none,rfl,wpAny_pure (hQ _ _ hfin (Heap.SameBut.update ..))⟩))
  | exact wpAny_pure ⟨.none,rfl,wpAny_pure (hQ _ _ hfin (Heap.SameBut.update ..))⟩
theorem tY {sp:Pos}{i v:Expr}{xs:List D}{z:Int}{kz:Nat}(hp:fO v=true)(h1:fQ V x=true)(hd:(x==("__debug__":Str))=false)(hl:V.vars.lookup x=some (.list xs,1))(ev:EvS g n V v d 0)(ei:EvS g n V i (.int z) kz)(h0:0<=z)(hz:z < xs.length) :
  StS g n V (.Assign [.Subscript (.Name x np) i sp] v p) .next (V.put x (.list (xs.set z.toNat d)) 1):=λO M P env A s E Q pl rm a q=>by
 refine wpAny_Assign_Subscript (ev.act rm a λw s_1 k1 r1 a1=>?_) (aJ hp _ _ _)
 obtain⟨l,vs,q1,hv,hM,hI,hsz,hr,hO⟩:=sK a1 hl
 refine wpAny_Name (i4 a1.eo.kind hv (ei.act rm a1 λu s2 k2 r2 a2=>?_)) hd
 obtain⟨t,rfl⟩:=aH r2
 have hlen:=hr.length
 rw [Array.length_toList] at hlen
 obtain⟨j,rfl⟩:=Int.eq_ofNat_of_zero_le h0
 have hc:cap=100000:=rfl
 refine l8 (prog:=g.prog) (w:=g.w) (aA k2 _ _ hI) h0 (by grind) (by grind) λh' n' hI' hs=>?_
 obtain⟨c,a'⟩:=AM (ys:=xs.set j d) pl a2 h1 (hv.keeps (aA k2)) hM (aA k2 _ _ hI) hO hs hI' (by rw [Array.size_setIfInBounds]; exact hsz) (by rw [Array.toList_setIfInBounds]; exact(hr.keeps (aA k2)).set j (r1.keeps (aA k2)))
 exact q _ _ rfl ((Chg.ofK k1).trans ((Chg.ofK k2).trans c)) a'
end
section
section
variable {R:Ev}
theorem Act.let {s_0:Shared}{C:Addr}{m:Str->Option Value}(a:Act g O M V env s)(hC:s.heap.Ns C m)(hs:Heap.SameBut C s.heap h')(hn:env.locals≠C)(h0:∀b,(O b\/M b\/∃o,g.h.get? b=some o)->b≠C):Act g O M V env { s with heap:=h' }:=by
 have var:∀y v,VarAt env s.heap y v->VarAt env h' y v:=λy v hy=>by
  rcases hy with ⟨a,m',⟨o,es,ep,ho,r⟩,c⟩ | ⟨a,c,b,d⟩
  ·exact .inl ⟨a,m',⟨o,es,ep,hs.extBut _ _ hn ho,r⟩,c⟩
  ·have:c≠C:=dO hC d
   obtain⟨o,ho,hd⟩:=d
   exact .inr ⟨a,c,b,o,hs.extBut _ _ this ho,hd⟩
 refine⟨λb o e=>hs.extBut b o (h0 b (.inr (.inr ⟨o,e⟩))) (a.up b o e),λb hb=>?_,λb hb=>?_,⟨a.eo.kind,a.eo.gl,a.eo.bl,a.eo.sc,a.eo.apart,λy d k hy=>?_⟩,?_,λx hx=>?_⟩
 ·obtain⟨o,e⟩:=a.aO b hb; exact⟨o,hs.extBut b o (h0 b (.inl hb)) e⟩
 ·obtain⟨o,e⟩:=a.aM b hb; exact⟨o,hs.extBut b o (h0 b (.inr (.inl hb))) e⟩
 ·obtain⟨v,g1,g2,g3⟩:=a.eo.vars y d k hy
  exact⟨v,var _ _ g1,g2.seqs λb c vs q e=>hs.extBut b _ (dT hC e) e,g3⟩
 ·obtain⟨m',o,es,ep,ho,r⟩:=a.fo.ns
  exact⟨m',o,es,ep,hs.extBut _ _ hn ho,r⟩
 ·obtain⟨c,v,g1,g2⟩:=a.fo.cell x hx
  have:c≠C:=dO hC g2
  obtain⟨o,ho,hd⟩:=g2
  exact⟨c,v,g1,o,hs.extBut _ _ this ho,hd⟩
theorem rU {P:Avoid}{t':Shared}{Q:Flow->Shared->Prop}{Z C:Addr}{m:Str->Option Value}(pl:Pl g O M P env)(a:Act g O M V env s)(hx:stOk V x=true)
  (k:Keeps s t') (hm:t'.heap.Ns C m) (hC:s.heap.get? C=none) (r:Rd O M t'.heap 0 (.ref Z) d)
  (q:∀fl s',FlOk O M s'.heap .next fl->Chg (PM P M) s s'->Act g O M (V.put x d 0) env s'->Q fl s') :
  compPost g.M A E (some (assign (.Name x np) env)) (λzw s'=>Q .next s') (.ref Z) C (.ok .next) t':=by
 have nl:∀b o,s.heap.get? b=some o->b≠C:=λb o e z=>by rw [z,hC] at e; cases e
 have hP:¬P C:=λz=>by obtain⟨o,e⟩:=a.aO C (pl.po C z); exact nl C o e rfl
 refine wpAny_assign_Name (cS pl (a.keeps k) hx r λs2 c2 a2 sq=>?_)
 have hm2:s2.heap.Ns C m:=by
  obtain⟨o,es,ep,ho,rr⟩:=hm
  exact⟨o,es,ep,c2.2 _ _ hP ho,rr⟩
 refine⟨m,hm2,λh' hs'=>q _ _ rfl ?_ (Act.let (s_0:=s) a2 hm2 hs' ?_ λb hb=>?_)⟩
 ·obtain⟨⟨h2,tk2,rfl⟩,k2⟩:=c2
  obtain⟨h1,tk1,rfl,k1⟩:=k
  exact⟨⟨h',tk2,rfl⟩,λb o hb e=>hs'.extBut b o (nl b o e) (k2 b o (λz=>hb (.inl z)) (k1 b o e))⟩
 ·obtain⟨m',o,es,ep,ho,_⟩:=a.fo.ns
  exact nl _ o ho
 ·rcases hb with hb | hb | ⟨o,hb⟩
  ·obtain⟨o,e⟩:=a.aO b hb; exact nl b o e
  ·obtain⟨o,e⟩:=a.aM b hb; exact nl b o e
  ·exact nl b o (a.up b o hb)
theorem kB (eo:EnvOk O M V env h)(elt:Expr)(gens:List Comprehension)(scope:Scope)(cp np:Pos)(x:Str)(l:Nat) :
  swapsWith (.ListComp elt gens scope cp) (some (.Name x np)) l env=pure (cE V scope x np cp):=by
 unfold swapsWith cE
 have h1:env.blockKind=.function:=by unfold Env.blockKind; rw [eo.kind]; rfl
 have h2:env.kindOf x=V.sc.lookup x:=by unfold Env.kindOf; rw [eo.sc]
 simp only [h1,h2]
 have:(ScopeKind.function==ScopeKind.function)=true:=rfl
 rw [this,Bool.true_and]
 rfl
theorem lS {gens:List Comprehension}{scope:Scope}(ok:R.Ok g n)(hx:stOk V x=true)(hsw:cE V scope x np cp=true)(h:zT R V elt scope gens=some (d,0)) :
  StS g n V (.Assign [.Name x np] (.ListComp elt gens scope cp) p) .next (V.put x d 0):=λO M P env A s E Q pl rm a q=>by
 have sw:=kB a.eo elt gens scope cp np x p.line
 rw [hsw] at sw
 rw [exec_Assign_Name_used _ _ _ _ sw]
 refine wpAny_bind (wpAny_standAt (wpAny_bind ?_))
 match gens,h with
 | [⟨target,iter,ifs,a0⟩],h =>
  obtain⟨h0,h⟩:=gd h
  obtain rfl:a0=0:=h0
  show wpAny _ A (do let _ <- comprehension (.ListComp elt [⟨target,iter,ifs,0⟩] scope cp) scope env _ (newList []) false (eval iter env) (some (assign (.Name x np) env))) _ _ s
  refine wpAny_bind (wpAny_mono (Q:=λzw s'=>Q .next s') ?_ (λzw s' hq=>wpAny_pure (wpAny_pure hq)) λzw zw e=>e)
  refine bd h λxs hx' h=>bd (gd h).2 λitems hi h'=>bd h' λouts ho h'=>?_
  ((show let Q0:=_; wpAny _ _ _ Q0 _ _); intro Q0)
  have hc:=(gd h).1
  have hcap:=(gd h').1
  cases (gd h').2
  obtain⟨h1,h2⟩:=dB ho
  exact eL rm (λit Z env'=>jV ..) (bU hc.1 env) hc.2.1 hc.2.2.1 (ok.i _ _ _ _ hi _ _) (fG hx') hx' hc.2.2.2 h1 (λO' P env' Z pl i d out a b=>(nN ok (h2 i d out a b)).item rm pl) hcap a.up a.aO a.aM a.eo
   λZ C t' m k hm hC r=>rU pl a hx k hm hC r q
 | [⟨target,iter,ifs,a0⟩,⟨target',iter',ifs',a1⟩],h =>
  obtain⟨h0,h⟩:=gd h
  obtain rfl:a0=0:=h0.1
  obtain rfl:a1=0:=h0.2
  show wpAny _ A (do let _ <- comprehension (.ListComp elt [⟨target,iter,ifs,0⟩,⟨target',iter',ifs',0⟩] scope cp) scope env _ (newList []) false (eval iter env) (some (assign (.Name x np) env))) _ _ s
  refine wpAny_bind (wpAny_mono (Q:=λzw s'=>Q .next s') ?_ (λzw s' hq=>wpAny_pure (wpAny_pure hq)) λzw zw e=>e)
  refine bd h λxs hx' h=>bd h λxs' hx'' h=>bd (gd h).2 λitems hi h'=>bd h' λouts ho h'=>?_
  have hc:=(gd h).1
  have hcap:=(gd h').1
  cases (gd h').2
  obtain⟨h1,h2⟩:=dB ho
  refine eL rm (λit Z env'=>rV ..) (bU hc.1 env) hc.2.2.1 hc.2.2.2.1 (ok.i _ _ _ _ hi _ _) (fG hx') hx' hc.2.2.2.2.1 h1 (λO' P env' Z pl i d out a b=>mP rm (bU hc.2.1) (fG hx'') hx' hx'' hc.2.2.2.2.2.1 hc.2.2.2.2.2.2 pl ?_) hcap a.up a.aO a.aM a.eo
   λZ C t' m k hm hC r=>rU ‹Pl g O M _ env› ‹Act g O M V env s› hx k hm hC r q
  exact pZ ok (h2 i d out a b)
end
end
noncomputable def XOk (g:Glob) (n:Nat) (X:Rho->List Stmt->Option (Fl×Rho)):Prop:=∀V ss f V',X V ss=some (f,V')->RunS g n V ss f V'
theorem Act.impO {O':Avoid}(a:Act g O M V env s)(h:∀b,O' b->O b):Act g O' M V env s:=⟨a.up,λb hb=>a.aO b (h b hb),a.aM,a.eo.impO h,a.fo⟩
theorem FlOk.impO {O':Avoid}{f:Fl}{fl:Flow}(x:FlOk O M h f fl)(ho:∀b,O' b->O b):FlOk O' M h f fl:=by
 cases f with
 | next=>exact x
 | brk=>exact x
 | cont=>exact x
 | ret d=>obtain⟨v,k,e,r⟩:=x; exact⟨v,k,e,r.imp (λb zw h z=>h (ho b z)) (λzw zw zw a=>a) (Nat.le_refl _)⟩
theorem Act.chgW {W:Avoid}{t t':Shared}(a:Act g O M V env t)(ch:Chg W t t')(hWO:∀b,W b->O b)(kd:∀b,W b->∃o,t.heap.get? b=some o/\isFS o=true)(lv:∀b,W b->∃o,t'.heap.get? b=some o)(hg:∀b o,g.h.get? b=some o->¬W b):Act g O M V env t' :=
 ⟨ch.up a.up hg,ch.alloc a.aO λb zw hb=>lv b hb,ch.alloc a.aM λb zw hb=>lv b hb,a.eo.chgW ch hWO kd,a.fo.chgW ch kd⟩
theorem Chg.skip {P W:Avoid}{t t':Shared}(a:Chg P s t)(b:Chg W t t')(h:∀x,W x->s.heap.get? x=none):Chg P s t':=by
 refine⟨?_,λx o hx e=>b.2 x o (λz=>by rw [h x z] at e; cases e) (a.2 x o hx e)⟩
 obtain⟨h,tk,e⟩:=a.1
 obtain⟨h',tk',e'⟩:=b.1
 exact⟨h',tk',by rw [e',e]⟩
section
theorem bindP_sc {t:Expr}{xs:List Str}(hn:aR t=some xs)(h:jT V t d=some V'):V'.sc=V.sc:=by
 obtain⟨V'',h1,h2⟩:=mV h
 rw [h2.sc,(jF h1 hn).1]
theorem st_for {X:Rho->List Stmt->Option (Fl×Rho)}(ok:XOk g n X){body:List Stmt}{xs:List Str}{items:List D}{f:Fl}
  (hn:aR target=some xs) (hs:dE iter=true) (hx:xs.all (stOk V)=true) (I:IterS g n V (ttOf target) iter items) (hr:gM X target body items V=some (f,V')):StS g n V (.For target iter body [] p) f V':=λO M P env A s E Q pl rm a q=>by
 refine wpAny_For ?_ (bU hs env)
 refine I O M env A s E _ a.up rm a.aO a.aM a.eo λit s_1 W St k1 it1=>?_
 have hW:∀b,W b->s.heap.get? b=none:=λb hb=>(it1.wnew b hb).1
 have hg:∀b o,g.h.get? b=some o->¬W b:=λb o e z=>by have:=a.up b o e; rw [hW b z] at this; cases this
 let O':Avoid:=λb=>O b\/W b
 have wdO:Wid O W O' s_1:=⟨λb h=>.inl h,λb h=>by rcases h with h | h; exact .inl h; exact .inr (.inl h)⟩
 have pl':Pl g O' M P env:=⟨pl.store,λb h=>.inl (pl.po b h),pl.pg,pl.live⟩
 have stX:∀(V1:Rho),V1.sc=V.sc->xs.all (stOk V1)=true:=λV1 e=>by
  rw [List.all_eq_true] at hx ⊢
  intro x hx'
  have:=hx x hx'
  unfold stOk at this ⊢
  rw [e]; exact this
 have stP:∀{t t':Shared} {q:Nat},Chg (PM P M) t t'->St q t.heap->St q t'.heap:=λc x=>it1.frame _ _ _ x λb o ho hm zw e=>c.2 b o (λz=>by
  rcases z with z | z
  ·exact ho (pl.po b z)
  ·exact hm z) e
 have a1:Act g O' M V env s_1:=by
  have a':=a.keeps k1
  refine⟨a'.up,λb h=>?_,a'.aM,?_,a'.fo⟩
  ·rcases h with h | h
   ·exact a'.aO b h
   ·exact(it1.wnew b h).2
  ·exact(a.eo.wid (O':=O') λb h=>by
    rcases h with h | h
    ·exact .inl h
    ·exact .inr (hW b h)).keeps (aA k1)
 refine codeAny_forLoop_any (prog:=g.prog) (w:=g.w) (λk t=>∃i Vi,k=items.length+1 - i/\i<=items.length/\Vi.sc=V.sc/\St i t.heap/\Act g O' M Vi env t/\Chg (PM P M) s t/\gM X target body (items.drop i) Vi=some (f,V')) ?_ (items.length+1)
  ⟨0,V,rfl,Nat.zero_le _,rfl,it1.start,a1,Chg.ofK k1,hr⟩
 intro k t hinv
 ((show let Q0:=_; let E0:=_; wpAny _ _ _ Q0 E0 _); intro Q0 E0)
 refine wp_q λQ_0 hQ0=>?_
 obtain⟨i,Vi,rfl,hi,hsc,st,at',ch,hrun⟩:=hinv
 have kd:=it1.kinds i _ st
 by_cases hlt:i < items.length
 ·have hd:items[i]?=some items[i]:=List.getElem?_eq_getElem hlt
  rw [List.drop_eq_getElem_cons hlt] at hrun
  refine bd hrun λV1 hb hrun=>?_
  ((show let Q0:=_; wpAny _ _ _ Q0 _ _); intro Q0)
  refine' wpAny_mono (it1.item O' M i _ t target _ _ wdO Wid.refl (fG hn) hd st at'.aO at'.aM _) (λr t1 h=>hQ0 _ _ (Exists.elim h λv h=>h.1 ▸ h.2)) λzw zw z=>z
  intro v t2 chW rv st2
  have kd2:=it1.kinds _ _ st2
  have a2:Act g O' M Vi env t2:=at'.chgW chW (λb h=>.inr h) kd (λb h=>(kd2 b h).elim λo zq=>zq.elim λe zw=>⟨o,e⟩) hg
  refine gH rm.handled pl' a2 hn (stX Vi hsc) rv hb λt3 c3 a3=>?_
  ((show let Q0:=_; wpAny _ _ _ Q0 _ _); intro Q0)
  refine wp_q λQs hQs=>?_
  have ch3:Chg (PM P M) s t3:=(ch.skip chW hW).trans c3.pm
  have st3:St (i+1) t3.heap:=stP c3.pm st2
  have sc3:V1.sc=V.sc:=(bindP_sc hn hb).trans hsc
  refine bd hrun λr hX hgo=>?_
  refine ok _ _ r.1 r.2 hX O' M P env A t3 _ _ pl' rm a3 λfl t4 h1 c4 a4=>?_
  refine hQs _ _ ?_
  rcases go_el hgo with ⟨hf,hrun⟩ | ⟨hf,rfl,rfl⟩ | ⟨d,hf,rfl,rfl⟩
  ·rcases hf with hf | hf
   all_goals
    rw [hf] at h1
    cases h1
    exact⟨_,by grind,i+1,r.2,rfl,by assumption,a4.eo.sc.symm.trans (a3.eo.sc.trans sc3),stP c4 st3,a4,ch3.trans c4,hrun⟩
  ·rw [hf] at h1
   cases h1
   exact q _ _ rfl (ch3.trans c4) (a4.impO λb h=>.inl h)
  ·rw [hf] at h1
   obtain⟨v',k',rfl,r'⟩:=h1
   exact q _ _ (FlOk.impO (f:=.ret d) ⟨v',k',rfl,r'⟩ λb h=>.inl h) (ch3.trans c4) (a4.impO λb h=>.inl h)
 ·have hie:i=items.length:=by grind
  subst hie
  rw [List.drop_length] at hrun
  cases hrun
  refine it1.done t _ _ st λt1 chW=>hQ0 _ _ (wpAny_execs_nil (q _ _ rfl (ch.skip chW hW) ?_))
  have a1':=at'.impO (O':=O) λb h=>.inl h
  refine⟨chW.up a1'.up hg,?_,?_,?_,?_⟩
  ·intro b hb
   obtain⟨o,e⟩:=a1'.aO b hb
   exact⟨o,chW.2 b o (λz=>by obtain⟨o',e'⟩:=a.aO b hb; rw [hW b z] at e'; cases e') e⟩
  ·intro b hb
   obtain⟨o,e⟩:=a1'.aM b hb
   exact⟨o,chW.2 b o (λz=>by obtain⟨o',e'⟩:=a.aM b hb; rw [hW b z] at e'; cases e') e⟩
  ·exact(at'.eo.chgW chW (λb h=>.inr h) kd).impO λb h=>.inl h
  ·exact a1'.fo.chgW chW kd
end
section
section
variable {R:Ev}
theorem again {V2:Rho}{st:Stmt}{f:Fl}(h:run R k V2 [st]=some (f,V')):∃j,j < k/\bB R (run R j) V2 st=some (f,V'):=by
 cases k with
 | zero=>exact no h
 | succ j =>
  refine⟨j,Nat.lt_succ_self _,?_⟩
  refine bd (show(bB R (run R j) V2 st).bind (thn λV'=>run R j V' [])=some (f,V') from h) λr hs h=>hs.trans ?_
  obtain⟨fl,V3⟩:=r
  cases fl with
  | next =>
   cases j with
   | zero=>exact no h
   | succ i=>exact h
  | _=>exact h
theorem st_while (okR:R.Ok g n)(m:Nat)(hm:∀j,j<=m->XOk g n (run R j)){t:Expr}{b:List Stmt}{f:Fl}(h:bB R (run R m) V (.While t b [] p)=some (f,V')):StS g n V (.While t b [] p) f V':=by
 intro O M P env A s E Q pl rm a q
 refine wpAny_While ?_
 refine codeAny_whileLoop (prog:=g.prog) (w:=g.w) (λk t'=>∃Vk,k<=m/\Act g O M Vk env t'/\Chg (PM P M) s t'/\bB R (run R k) Vk (.While t b [] p)=some (f,V')) ?_ m ⟨V,Nat.le_refl _,a,Chg.refl,h⟩
 intro k t' hJ
 ((show let Q0:=_; let E0:=_; wpAny _ _ _ Q0 E0 _); intro Q0 E0)
 obtain⟨Vk,hk,ak,ch,hs⟩:=hJ
 refine bd (show oK R (run R k) Vk t b p=some (f,V') from hs) λc ht hs=>?_
 ((show let Q0:=_; wpAny _ _ _ Q0 _ _); intro Q0)
 refine(okR.t _ _ _ ht).act rm ak λs_1 k1 a1=>?_
 have ch1:=ch.trans (Chg.ofK k1)
 cases c with
 | false=>cases hs; exact wpAny_execs_nil (q _ _ rfl ch1 a1)
 | true =>
  refine bd (show(run R k Vk b).bind (go λV'=>run R k V' [.While t b [] p])=some (f,V') from hs) λr hX hgo=>?_
  ((show let Q0:=_; wpAny _ _ _ Q0 _ _); intro Q0)
  refine hm k hk _ _ r.1 r.2 hX O M P env A s_1 _ _ pl rm a1 λfl s2 h1 c2 a2=>?_
  rcases go_el hgo with ⟨hf,hrun⟩ | ⟨hf,rfl,rfl⟩ | ⟨d,hf,rfl,rfl⟩
  ·obtain⟨j,hj,e⟩:=again hrun
   rcases hf with hf | hf
   all_goals
    rw [hf] at h1
    cases h1
    exact⟨j,hj,r.2,Nat.le_trans (Nat.le_of_lt hj) hk,a2,ch1.trans c2,e⟩
  ·rw [hf] at h1
   cases h1
   exact q _ _ rfl (ch1.trans c2) a2
  ·rw [hf] at h1
   obtain⟨v',k',rfl,r'⟩:=h1
   exact q _ _ ⟨v',k',rfl,r'⟩ (ch1.trans c2) a2
theorem asgC_ok (okR:R.Ok g n){v:Expr}(hx:stOk V x=true)(h:asgC R V x np v=some V'):StS g n V (.Assign [.Name x np] v p) .next V':=by
 refine xR (P:=λv=>StS g n V (.Assign [.Name x np] v p) .next V') h λelt gens scope cp h=>?_
 refine put0E (show put0 V x (if cE V scope x np cp=true then zT R V elt scope gens else R.e V (.ListComp elt gens scope cp))=some V' from h) λd e=>fi e (λhs e=>lS okR hx hs e) λhs e =>
  oR hx (λO M env hh eo=>by rw [kB eo,Bool.eq_false_iff.mpr hs]) (okR.e _ _ _ _ e)
theorem v9 (okR:R.Ok g n){v:Expr}(h:oH R V x np v=some V'):StS g n V (.Assign [.Name x np] v p) .next V' :=
 fi (gd h).2 (λhp h'=>put0E h' λd e=>oR (gd h).1 (λO M env hh eo=>aJ hp _ _ _) (okR.e _ _ _ _ e)) λzw h'=>asgC_ok okR (gd h).1 h'
theorem nextPE {o:Option Rho}{r:Fl×Rho}{P:Fl×Rho->Prop}(h:uU o=some r)(k:∀V',o=some V'->P (.next,V')):P r:=bd h λV' e h=>sm h (k V' e)
theorem asg1_ok (okR:R.Ok g n){t v:Expr}{r:Fl×Rho}(h:asg1 R V v t=some r):StS g n V (.Assign [t] v p) r.1 r.2:=by
 cases t with
 | Name x np=>exact nextPE (P:=λr=>StS g n V (.Assign [.Name x np] v p) r.1 r.2) h λV' e=>v9 okR e
 | Subscript o i q =>
  refine bd (show((aW o).bind λx=>setE R V x i v)=some r from h) λx ho h=>uS (P:=λo=>StS g n V (.Assign [.Subscript o i q] v p) r.1 r.2) ho λnp=>?_
  refine vE (gd h).2 λd k he h'=>lE h' λxs k' hl h'=>iE h' λz kz hi h'=>sm (P:=λr:Fl×Rho=>StS g n V (.Assign [.Subscript (.Name x np) i q] v p) r.1 r.2) (gd h').2 ?_
  exact tY (gd h).1.1 (gd h).1.2.2.1 (gd h).1.2.2.2.2 ((gd h').1.2.1 ▸ hl) (okR.e _ _ _ _ ((gd h').1.1 ▸ he)) (okR.e _ _ _ _ hi) (gd h').1.2.2.1 (gd h').1.2.2.2
 | _=>exact no h
theorem asgE_ok (okR:R.Ok g n){ts:List Expr}{v:Expr}{r:Fl×Rho}(h:asgE R V v ts=some r):StS g n V (.Assign ts v p) r.1 r.2 :=
 l12E (P:=λts=>StS g n V (.Assign ts v p) r.1 r.2) h (λt h=>asg1_ok okR h) λt t' h=>bd h λx hx h=>bd h λy hy h =>
  uS (P:=λt=>StS g n V (.Assign [t,t'] v p) r.1 r.2) hx λpx=>uS (P:=λt'=>StS g n V (.Assign [.Name x px,t'] v p) r.1 r.2) hy λpy =>
   vE (gd h).2 λd k he h'=>sm (P:=λr:Fl×Rho=>StS g n V (.Assign [.Name x px,.Name y py] v p) r.1 r.2) (gd h').2 (tZ (gd h).1.1 (gd h).1.2.1 (gd h).1.2.2.2 (okR.e _ _ _ _ ((gd h').1 ▸ he)))
theorem exprE_ok (okR:R.Ok g n){r:Fl×Rho}(h:exprE R V e=some r):StS g n V (.Expr e p) r.1 r.2:=by
 refine pI (P:=λe=>StS g n V (.Expr e p) r.1 r.2) h λf as ks cp h=>xT (P:=λf=>StS g n V (.Expr (.Call f as ks cp) p) r.1 r.2) h λo m ap h=>?_
 ·refine bd (show((aW o).bind λx=>l0 (l1 (appE R V x m ap cp) as) ks)=some r from h) λx hx h=>uS (P:=λo=>StS g n V (.Expr (.Call (.Attribute o m ap) as ks cp) p) r.1 r.2) hx λpx=>?_
  refine l0E (P:=λks=>StS g n V (.Expr (.Call (.Attribute (.Name x px) m ap) as ks cp) p) r.1 r.2) h λh=>l1E (P:=λas=>StS g n V (.Expr (.Call (.Attribute (.Name x px) m ap) as [] cp) p) r.1 r.2) h λa h=>?_
  exact lE (gd h).2 λxs k hl h'=>vE h' λd k' he h'=>sm (P:=λr:Fl×Rho=>StS g n V (.Expr (.Call (.Attribute (.Name x px) m ap) [a] [] cp) p) r.1 r.2) (gd h').2
   (wX (gd h).1.1 (gd h).1.2.1 (gd h).1.2.2.1 (gd h).1.2.2.2.1 (gd h).1.2.2.2.2 ((gd h').1.1 ▸ hl) (okR.e _ _ _ _ ((gd h').1.2.1 ▸ he)) (gd h').1.2.2)
theorem wT (okR:R.Ok g n)(m:Nat)(hall:∀j,j<=m->XOk g n (run R j)){st:Stmt}{r:Fl×Rho}(hs:bB R (run R m) V st=some r):StS g n V st r.1 r.2:=by
 cases st with
 | Pass p=>exact sm (P:=λr:Fl×Rho=>StS g n V (.Pass p) r.1 r.2) hs st_pass
 | Break p=>exact sm (P:=λr:Fl×Rho=>StS g n V (.Break p) r.1 r.2) hs st_break
 | Continue p=>exact sm (P:=λr:Fl×Rho=>StS g n V (.Continue p) r.1 r.2) hs st_cont
 | Return e p =>
  cases e with
  | none=>exact no hs
  | some e=>exact vE (show dkV (R.e V e) (λd zw=>some (Fl.ret d,V))=some r from hs) λd k he h=>sm (P:=λr:Fl×Rho=>StS g n V (.Return (some e) p) r.1 r.2) h (st_ret (okR.e _ _ _ _ he))
 | If t b o p =>
  refine bd (show iffE R (run R m) V t b o=some r from hs) λc ht h=>?_
  cases c with
  | true=>exact st_if (okR.t _ _ _ ht) (λzw=>hall m (Nat.le_refl _) _ _ _ _ h) nofun
  | false=>exact st_if (okR.t _ _ _ ht) nofun λzw=>hall m (Nat.le_refl _) _ _ _ _ h
 | While t b o p=>exact l0E (P:=λo=>StS g n V (.While t b o p) r.1 r.2) (show l0 (oK R (run R m) V t b p) o=some r from hs) λh=>st_while okR m hall h
 | For target iter body o p =>
  exact l0E (P:=λo=>StS g n V (.For target iter body o p) r.1 r.2) (show l0 (forE R (run R m) V target iter body) o=some r from hs) λh=>bd h λxs hx h=>bd (gd h).2 λitems hi h' =>
   st_for (hall m (Nat.le_refl _)) hx (gd h).1.1 (gd h).1.2 (okR.i _ _ _ _ hi) h'
 | Assign ts v p=>exact asgE_ok okR hs
 | AugAssign t op v p =>
  exact bd (show((aW t).bind λx=>augE R V x op v)=some r from hs) λx hx h=>uS (P:=λt=>StS g n V (.AugAssign t op v p) r.1 r.2) hx λpx =>
   vE (gd h).2 λa k hl h'=>vE h' λb kb he h'=>bd (gd h').2 λd hd h''=>sm (P:=λr:Fl×Rho=>StS g n V (.AugAssign (.Name x px) op v p) r.1 r.2) h'' (st_aug (gd h).1 ((gd h').1 ▸ hl) (okR.e _ _ _ _ he) hd)
 | Expr e p=>exact exprE_ok okR hs
 | _=>exact no hs
theorem run_ok (okR:R.Ok g n):∀m,XOk g n (run R m):=by
 intro m
 induction m using Nat.strongRecOn with
 | ind m ih =>
  intro V ss f V' h
  cases m with
  | zero=>exact no h
  | succ m =>
   have okm:=ih m (Nat.lt_succ_self _)
   cases ss with
   | nil=>cases h; exact run_nil
   | cons st rest =>
    refine bd (show(bB R (run R m) V st).bind (thn λV'=>run R m V' rest)=some (f,V') from h) λr hs h=>?_
    have hst:=wT okR m (λj hj=>ih j (Nat.lt_succ_of_le hj)) hs
    obtain⟨fl,V1⟩:=r
    cases fl with
    | next=>exact run_cons hst (okm _ _ _ _ h)
    | _=>cases h; exact run_stop hst nofun
theorem kD (okR:R.Ok g n)(m:Nat){st:Stmt}{f1:Fl}{V1:Rho}(hs:bB R (run R m) V st=some (f1,V1)):StS g n V st f1 V1:=wT okR m (λj zw=>run_ok okR j) hs
end
end
noncomputable abbrev No:Avoid:=λzw=>False
noncomputable def AP (g:Glob) (n:Nat) (V:Rho) (ss:List Stmt) (d:D):Prop :=
 ∀(O P:Avoid) (env:Env) (A:Around) (s:Shared) (E:Value->Shared->Prop) (Q:Flow->Shared->Prop),Pl g O No P env->Room n A->Act g O No V env s →
  (∀v k s',Rd O No s'.heap k v d->Chg P s s'->Q (.ret v) s')->wpAny g.M A (execs ss env) Q E s
noncomputable def Rho.lvl0 (V:Rho):Rho:={ V with vars:=V.vars.map λp=>(p.1,(p.2.1,0)) }
theorem gY (x:Str):∀(l:List (Str×(D×Nat))),(l.map λp=>(p.1,(p.2.1,0))).lookup x=(l.lookup x).map λq=>(q.1,0)
 | []=>rfl
 | (y,q)::l=>by
  rw [List.map_cons,List.lookup_cons,List.lookup_cons,gY x l]
  cases x==y <;> rfl
theorem Act.lvl0 (a:Act g O M V env s):Act g O No V.lvl0 env s :=
 ⟨a.up,a.aO,λzw h=>h.elim,⟨a.eo.kind,a.eo.gl,a.eo.bl,a.eo.sc,a.eo.apart,λx d k hx=>by
  have hx:(V.vars.map λp=>(p.1,(p.2.1,0))).lookup x=some (d,k):=hx
  rw [gY] at hx
  cases h:V.vars.lookup x with
  | none=>rw [h] at hx; cases hx
  | some q =>
   rw [h] at hx; cases hx
   obtain⟨v,g1,g2,_⟩:=a.eo.vars x q.1 q.2 h
   exact⟨v,g1,g2.free 0,λz=>absurd rfl z⟩⟩,a.fo⟩
noncomputable def BodyO (g:Glob) (n:Nat) (V:Rho) (ss:List Stmt) (d:D):Prop :=
 ∀(O M P:Avoid) (env:Env) (A:Around) (s:Shared) (E:Value->Shared->Prop) (Q:Flow->Shared->Prop),Pl g O M P env->Room n A->Act g O M V env s →
  (∀v k s',Rd O No s'.heap k v d->Chg (PM P M) s s'->Q (.ret v) s')->wpAny g.M A (execs ss env) Q E s
noncomputable def EvF (g:Glob) (n:Nat) (V:Rho) (e:Expr) (ds:List D):Prop :=
 ∀(O:Avoid) (env:Env) (A:Around) (s:Shared) (E:Value->Shared->Prop),g.Up s->Room n A->Alloc O s->EnvOk O No V env s.heap →
  wpAny g.M A (eval e env) (λv s'=>Keeps s s'/\∃a,v=.ref a/\s.heap.get? a=none/\Rd O No s'.heap 0 v (.list ds)) E s
section
theorem Chg.pno {P:Avoid}(c:Chg (PM P No) s s'):Chg P s s':=c.mono λb h=>h.elim id False.elim
theorem BodyO.r {ss:List Stmt}(x:BodyO g n V ss d):AP g n V ss d:=λO P env A s E Q pl rm a q=>x O No P env A s E Q pl rm a λv k s' r c=>q v k s' r c.pno
theorem bo_cons {st:Stmt}{ss:List Stmt}(x:StS g n V st .next V')(y:BodyO g n V' ss d):BodyO g n V (st::ss) d:=λO M P env A s E Q pl rm a q =>
 wpAny_execs_cons (x O M P env A s E _ pl rm a λfl s' h c a'=>by
  cases h
  exact y O M P env A s' E Q pl rm a' λv k s'' r c'=>q v k s'' r (c.trans c'))
theorem bo_stop {st:Stmt}{ss:List Stmt}(x:StS g n V st (.ret d) V'):BodyO g n V (st::ss) d:=λO M P env A s E Q pl rm a q =>
 wpAny_execs_cons (x O M P env A s E _ pl rm a λfl s' h c a'=>by
  obtain⟨v,k,rfl,r⟩:=h
  exact q v 0 s' (r.free 0) c)
theorem bo_free {ss:List Stmt}(x:AP g n V.lvl0 ss d):BodyO g n V ss d:=λO M P env A s E Q pl rm a q =>
 x O P env A s E Q ⟨pl.store,pl.po,λb o e=>⟨(pl.pg b o e).1,id⟩,pl.live⟩ rm a.lvl0 λv k s' r c=>q v k s' r c.pm
theorem evf_of (x:EvS g n ⟨V.sc,[]⟩ e (.list ds) 0):EvF g n V e ds:=λO env A s E u rm aO eo=>by
 refine wpAny_mono (x O (λb=>(s.heap.get? b).isSome=true) env A s E u rm aO (λb hb=>Option.isSome_iff_exists.mp hb) ⟨eo.kind,eo.gl,eo.bl,eo.sc,eo.apart,λy d k hy=>by cases hy⟩) (λv s' ⟨k,r⟩=>⟨k,?_⟩) λzw zw z=>z
 obtain⟨a,vs,m,rfl,h1,h2,h3,h4,h5⟩:=bC r
 refine⟨a,rfl,?_,r.free 0⟩
 have:=h5 rfl
 cases h:s.heap.get? a with
 | none=>rfl
 | some o=>exact absurd (by rw [h]; rfl) this
theorem zI {l i:Expr}{xs:List Int}{z:Int}{ka kb:Nat}(x:EvS g n V l (yW xs) ka)(y:EvS g n V i (.int z) kb)(h0:0<=z)(h:xs.length*z.toNat<=cap)(h2:z<=cap):EvF g n V (.BinOp l .Mult i pos) (repL (xs.map .int) z.toNat):=λO env A s E u rm aO eo=>by
 refine wpAny_BinOp (x.use u rm aO (λzw h=>h.elim) eo λva s_1 k1 r1 u1 o1 m1 e_1=>y.use u1 rm o1 m1 e_1 λvb s2 k2 r2 u2 o2 m2 e_2=>?_)
 ((show let Q0:=_; wpAny _ _ _ Q0 _ _); intro Q0)
 obtain⟨a,vs,m,rfl,g1,g2,g3,g4,g5⟩:=bC (r1.keeps (aA k2))
 obtain⟨t,rfl⟩:=aH r2
 obtain⟨ys,e1,e2⟩:=cG g3
 have ra:Rd O (λb=>(s2.heap.get? b).isSome=true) s2.heap 1 (.ref a) (yW xs):=.list g4 (λz=>by cases z) g1 g2 (by rw [e1,<- e2]; exact bH ys)
 refine wpAny_mono (AD (g:=g) (n:=n) (ka:=1) (kb:=0) h0 (by rw [List.length_map]; exact h) h2 (Nat.le_refl _) O _ A s2 E _ _ rm o2 (λb hb=>Option.isSome_iff_exists.mp hb) ra .int) (λv s' ⟨k,r⟩=>⟨aB k1 (aB k2 k),?_⟩) λzw zw z=>z
 obtain⟨a',vs',m',rfl,q1,q2,q3,q4,q5⟩:=bC r
 refine⟨a',rfl,?_,r.free 0⟩
 have nz:=q5 rfl
 cases hh:s.heap.get? a' with
 | none=>rfl
 | some o=>exact absurd (by rw [aA (aB k1 k2) _ _ hh]; rfl) nz
theorem Rd.fresh (ha:h.get? a=Option.none)(e:k=0)(x:Rd O No h k v d):Rd O (λb=>b=a) h k v d :=
 x.gen (λzw zw=>True) (λzw=>trivial) (λzw p zw c=>⟨p,λzw z=>(by rw [z,ha] at c; cases c),c⟩) trivial
end
theorem Rd.list_inv {vs:Array Value}(e:h.get? a=some { cls:=.type "list",data:=.seq vs n })(p:bD d=true)(y:Rd O M h k (.ref a) d):∃k' ds,d=.list ds/\Rds O M h k' vs.toList ds:=by
 cases y with
 | obj=>simp [objD,bD] at p
 | list g1 g2 g3 g4 g5=>rw [e] at g4; injection g4 with g4; injection g4 with _ _ g4 _; injection g4 with g4 _; exact⟨_,_,rfl,g4 ▸ g5⟩
 | tup g1 g2 g3 g4 g5=>rw [e] at g4; injection g4 with g4; injection g4 with g4 _ _ _; injection g4 with g4; exact absurd g4 (by decide)
theorem Rd.tup_inv {vs:Array Value}(e:h.get? a=some { cls:=.type "tuple",data:=.seq vs n })(p:bD d=true)(y:Rd O M h k (.ref a) d):∃k' ds,d=.tuple ds/\Rds O M h k' vs.toList ds:=by
 cases y with
 | obj=>simp [objD,bD] at p
 | tup g1 g2 g3 g4 g5=>rw [e] at g4; injection g4 with g4; injection g4 with _ _ g4 _; injection g4 with g4 _; exact⟨_,_,rfl,g4 ▸ g5⟩
 | list g1 g2 g3 g4 g5=>rw [e] at g4; injection g4 with g4; injection g4 with g4 _ _ _; injection g4 with g4; exact absurd g4 (by decide)
theorem Rd.fun {O' M':Avoid}{k':Nat}{d':D}(p:bD d=true)(p':bD d'=true)(x:Rd O M h k v d)(y:Rd O' M' h k' v d'):d=d' :=
 Rd.rec (motive_1:=λzw v d zw=>∀k' d',bD d=true->bD d'=true->Rd O' M' h k' v d'->d=d') (motive_2:=λzw v d zw=>∀k' d',plainDs d=true->plainDs d'=true->Rds O' M' h k' v d'->d=d')
  (λzw zw zw zw y=>by cases y; rfl) (λzw zw zw zw y=>by cases y; rfl) (λzw zw zw zw y=>by cases y; rfl) (λzw zw zw zw y=>by cases y; rfl) (λzw zw p zw zw=>by simp [objD,bD] at p)
  (λzw zw zw h4 zw i zw zw p p' y=>(y.list_inv h4 p').elim λzw z=>z.elim λzw z=>z.1 ▸ congrArg PyData.list (i _ _ (eR p) (eR (z.1 ▸ p')) z.2))
  (λzw zw zw h4 zw i zw zw p p' y=>(y.tup_inv h4 p').elim λzw z=>z.elim λzw z=>z.1 ▸ congrArg PyData.tuple (i _ _ (gB p) (gB (z.1 ▸ p')) z.2))
  (λzw zw zw zw y=>by cases y; rfl) (λzw zw i j zw zw p p' y=>by
   cases y with
   | cons a b=>rw [i _ _ (bK p).1 (bK p').1 a,j _ _ (bK p).2 (bK p').2 b]) x _ _ p p' y
theorem Rds.part {M':Avoid}{big:D}{kb:Nat}(hp:bD big=true)(hb:Rd O M h kb (.ref a) big){v:List Value}{d:List D}(p:plainDs d=true)(s:sizeOf d < sizeOf big)(x:Rds O M' h k v d):Rds O (λb=>b=a) h 0 v d :=
 Rds.rec (motive_1:=λzw v d zw=>bD d=true->sizeOf d < sizeOf big->Rd O (λb=>b=a) h 0 v d) (motive_2:=λzw v d zw=>plainDs d=true->sizeOf d < sizeOf big->Rds O (λb=>b=a) h 0 v d)
  (λzw zw=>.none) (λzw zw=>.bool) (λzw zw=>.int) (λzw zw=>.str) (λzw zw=>.obj)
  (λh1 h2 h3 h4 h5 i p s=>.list h1 (λzw z=>Nat.lt_irrefl _ ((hb.fun hp p (z ▸ Rd.list h1 h2 h3 h4 h5)) ▸ s)) h3 h4 (i (eR p) (Nat.lt_trans (by simp) s)))
  (λh1 h2 h3 h4 h5 i p s=>.tup h1 (λzw z=>Nat.lt_irrefl _ ((hb.fun hp p (z ▸ Rd.tup h1 h2 h3 h4 h5)) ▸ s)) h3 h4 (i (gB p) (Nat.lt_trans (by simp) s)))
  (λzw zw=>.nil) (λzw zw i j p s=>.cons (i (bK p).1 (Nat.lt_of_le_of_lt (by simp; (simp +arith)) s)) (j (bK p).2 (Nat.lt_of_le_of_lt (by simp) s))) x p s
section
theorem no_own (h:OwnV No v):False:=(h).elim λa zq=>zq.elim λzw e=>(e a).mpr rfl
theorem br_own {rest:List Stmt}(hx:stOk V x=true)(hv:∀(O M:Avoid) (env:Env) (h:Heap),EnvOk O M V env h->swapsWith e (some (.Name x np)) p.line env=pure false)(ev:EvF g n V e ds)(hpl:plainDs ds=true)(y:BodyO g n (V.put x (.list ds) 1) rest d) :
  AP g n V (.Assign [.Name x np] e p::rest) d:=λO P env A s E Q pl rm a q=>by
 refine wpAny_execs_cons (wpAny_Assign_Name ?_ (hv O No env _ a.eo))
 refine wpAny_mono (ev O env A s E a.up rm a.aO a.eo) (λv s_1 hJ0=>?_) λzw zw z=>z
 obtain⟨k1,l,hl,hnew,r1⟩:=hJ0
 subst hl
 have a1:=a.keeps k1
 obtain⟨l',vs,m,e',h1,h2,h3,h4,_⟩:=bC r1
 cases e'
 let M:Avoid:=λb=>b=l
 have own:OwnV M (.ref l):=⟨l,rfl,λb=>Iff.rfl⟩
 have items:Rds O M s_1.heap 0 vs.toList ds:=Rds.part (by simpa [bD] using hpl) r1 hpl (by first | grind | simp) h3
 have eo:EnvOk O M V env s_1.heap:=⟨a.eo.kind,a.eo.gl,a.eo.bl,a.eo.sc,a.eo.apart,λy dd k hy=>by
  obtain⟨w,g1,g2,g3⟩:=a.eo.vars y dd k hy
  have hk:k=0:=by
   cases k with
   | zero=>rfl
   | succ k=>exact(no_own (g3 (by first | grind | simp))).elim
  subst hk
  exact⟨w,g1.keeps (aA k1),(g2.fresh hnew rfl).keeps (aA k1),λz=>absurd rfl z⟩⟩
 have hs:=m8 a.eo hx
 have plM:Pl g O M P env:=⟨pl.store,pl.po,λb o e=>⟨(pl.pg b o e).1,λz=>by have:=a.up b o e; rw [z,hnew] at this; cases this⟩,pl.live⟩
 refine iD eo a1.fo hs (.list h4 (λz=>by cases z) h1 h2 items:Rd O M s_1.heap 1 (.ref l) (.list ds)) (λzw=>own) λh' tk st eo' fo'=>?_
 have ch:Chg P s_1 { s_1 with heap:=h',toks:=tk }:=⟨⟨h',tk,rfl⟩,λb o hb e=>st.same.extBut b o (λz=>hb (z ▸ pl.store x hs)) e⟩
 have lv:=pl.live { s_1 with heap:=h',toks:=tk } fo'
 have aM:Alloc M { s_1 with heap:=h',toks:=tk }:=λb hb=>by
  have hb:b=l:=hb
  subst hb
  exact⟨_,st.seqs _ _ _ _ h2⟩
 refine y O M P env A _ E Q plM rm ⟨ch.up a1.up λb o e=>(pl.pg b o e).1,ch.alloc a1.aO λb zw hb=>lv b hb,aM,eo'.same (Same.refl.put _ _ _),fo'⟩ λv k s' r c=>q v k s' r ?_
 have:Chg (PM P M) s s':=((Chg.ofK k1).trans ch.pm).trans c
 refine⟨this.1,λb o hb e=>this.2 b o (λz=>?_) e⟩
 rcases z with z | z
 ·exact hb z
 ·have z:b=l:=z
  rw [z,hnew] at e; cases e
end
theorem Rd.wide {O':Avoid}(ho:∀b,(h.get? b).isSome=true->¬O b->¬M b->¬O' b)(e:k=0)(x:Rd O M h k v d):Rd O' No h k v d :=
 x.gen (λk k'=>k=0/\k'=0) iB (λe a b c=>⟨ho _ (c ▸ rfl) a (b e.1),λzw=>id,c⟩) ⟨e,e⟩
theorem Rds.wide {O':Avoid}(ho:∀b,(h.get? b).isSome=true->¬O b->¬M b->¬O' b){v:List Value}{d:List D}(e:k=0)(x:Rds O M h k v d):Rds O' No h k v d :=
 x.gen (λk k'=>k=0/\k'=0) iB (λe a b c=>⟨ho _ (c ▸ rfl) a (b e.1),λzw=>id,c⟩) ⟨e,e⟩
theorem vs0 {Q:List Value->Prop}(k:Q [])(vs:List Value)(h:vs.length=0):Q vs:=List.eq_nil_of_length_eq_zero h ▸ k
theorem vsS {Q:List Value->Prop}(k:∀a vs,vs.length=n->Q (a::vs))(vs:List Value)(h:vs.length=n+1):Q vs:=by
 cases vs with
 | nil=>cases h
 | cons a vs=>exact k a vs (Nat.succ.inj h)
theorem fB {Q:List Value->Prop}(h:∀a,Q [a]):∀vs:List Value,vs.length=1->Q vs:=vsS λa=>vs0 (Q:=λt=>Q (a::t)) (h a)
theorem jJ {Q:List Value->Prop}(h:∀a b,Q [a,b]):∀vs:List Value,vs.length=2->Q vs:=vsS λa=>fB (Q:=λt=>Q (a::t)) (h a)
theorem m0 {Q:List Value->Prop}(h:∀a b c,Q [a,b,c]):∀vs:List Value,vs.length=3->Q vs:=vsS λa=>jJ (Q:=λt=>Q (a::t)) (h a)
theorem four_vs {Q:List Value->Prop}(h:∀a b c d,Q [a,b,c,d]):∀vs:List Value,vs.length=4->Q vs:=vsS λa=>m0 (Q:=λt=>Q (a::t)) (h a)
noncomputable def bA (clv:List (Str×D)):List (Str×(D×Nat)):=clv.map λp=>(p.1,(p.2,0))
theorem dY (x:Str):∀(l:List (Str×D)),(bA l).lookup x=(l.lookup x).map λd=>(d,0)
 | []=>rfl
 | (y,d)::l=>by
  unfold bA
  rw [List.map_cons,List.lookup_cons,List.lookup_cons]
  have:=dY x l
  unfold bA at this
  rw [this]
  cases x==y <;> rfl
structure Clos (O M:Avoid) (h:Heap) (cl:List (Str×Addr)) (clv:List (Str×D)):Prop where
 at_:∀x d,clv.lookup x=some d->∃c v,cl.lookup x=some c/\h.IsCell c (some v)/\Rd O M h 0 v d
 only:∀x c,cl.lookup x=some c->∃d,clv.lookup x=some d
 apart:∀x y c,cl.lookup x=some c->cl.lookup y=some c->x=y
noncomputable def c9 (names:List (Str×NameKind)) (clv:List (Str×D)):Bool:=names.all (λp=>names.lookup p.1==some p.2) && clv.all λp=>names.lookup p.1==some .free && p.1 != ("__classdict__":Str)
set_option tactic.hygienic true in
theorem kC {g:Glob}{A:Around}{E:Value->Shared->Prop}{O P:Avoid}{env:Env}(pl:Pl g O No P env):∀(xs:List Str) (vs:List Value) (ds:List D) (V V':Rho) (s:Shared) (Q:PUnit->Shared->Prop),bN V xs ds=some V'->xs.all (stOk V)=true->Rds O No s.heap 0 vs ds->Act g O No V env s →
  (∀s',Chg P s s'->Act g O No V' env s'->Q ⟨⟩ s')->wpAny g.M A (forIn (xs.zip vs) PUnit.unit λx r=>do storeName env x.1 x.2; pure (ForInStep.yield ⟨⟩)) Q E s
 | [],vs,ds,V,V',s,Q,h1,h2,r,a,q=>by
  cases ds with
  | nil=>cases h1; exact wpAny_pure (q s Chg.refl a)
  | cons _ _=>cases h1
 | x::xs,vs,ds,V,V',s,Q,h1,h2,r,a,q=>by
  cases ds with
  | nil=>cases h1
  | cons d ds =>
   cases r with | cons r rs =>
   rename_i v vs
   simp only [List.all_cons,Bool.and_eq_true] at h2
   rw [List.zip_cons_cons,List.forIn_cons]
   refine wpAny_bind (wpAny_bind (cS pl a h2.1 r λs_1 c1 a1 sq=>wpAny_pure ?_))
   exact kC pl xs vs ds (V.put x d 0) V' s_1 Q h1 h2.2 (rs.seqs sq) a1 λs' c a'=>q s' (c1.trans c) a'
structure FnData (fd:FuncData) (body:List Stmt):Prop where
 body:fd.body=.stmts body
 gl:fd.globals=mainGlobals
 bl:fd.builtins=builtinsNs
 kind:fd.scope.kind=.function
 co:fd.scope.isCoroutine=false
 gen:fd.scope.isGenerator=false
theorem wp_frame {E':Value->Shared->Prop}{R:Env->Shared->Prop}{fd:FuncData}{params:List Str}{vs:List Value}{clv:List (Str×D)}
  (u:g.Up s) (rm:Room (n+1) A) (aO:Alloc O s) (aM:Alloc M s) (hkind:fd.scope.kind=.function) (hgl:fd.globals=mainGlobals) (hbl:fd.builtins=builtinsNs) (hbind:bindArgs fd ⟨vs,[]⟩=pure (params.zip vs))
  (rs:Rds O M s.heap 0 vs ds) (hcl:Clos O M s.heap fd.closure clv) (hnm:c9 fd.scope.names clv=true) (hps:params.all (stOk ⟨fd.scope.names,bA clv⟩)=true) (hρ:bN ⟨fd.scope.names,bA clv⟩ params ds=some V)
  (q:∀O' P env s2,Pl g O' No P env->Room n (A.deeper env)->Act g O' No V env s2->(∀s',Chg P s2 s'->Keeps s s')->(∀h v k d,Rd O' No h k v d->Rd O M h 0 v d)->R env s2) :
  wpAny g.M A.in1 (bindArgs fd ⟨vs,[]⟩) (λbinds s_1=>wpAny g.M A.in1 (newFunctionEnv fd.scope fd.globals fd.closure binds (fd.qualname++".<locals>.") (some a) fd.code none fd.builtins) (λenv s2=>s2.heap.NoLimit/\R env s2) E s_1) E' s:=by
 have hrd:=rm.depth
 have hru:=rm.units
 rw [hbind]
 refine wpAny_pure (j5 λh_1 cs lay=>?_)
 generalize henv:newEnv fd.scope s.heap.objs.size fd.globals cs (fd.qualname++".<locals>.") (some a) fd.code none fd.builtins=env
 revert henv
 revert env
 refine id ?_
 intro env henv
 have n1:env.scope.kind=.function:=by rw [<- henv]; exact hkind
 have n2:env.globals=mainGlobals:=by rw [<- henv]; exact hgl
 have n3:env.builtins=builtinsNs:=by rw [<- henv]; exact hbl
 have n4:env.scope.names=fd.scope.names:=by rw [<- henv]; rfl
 have n5:env.cells=cs:=by rw [<- henv]; rfl
 have n6:env.locals=s.heap.objs.size:=by rw [<- henv]; rfl
 unfold c9 at hnm
 rw [Bool.and_eq_true] at hnm
 have nm1:∀x k,(x,k)∈fd.scope.names->fd.scope.names.lookup x=some k:=λx k h=>by
  have:=List.all_eq_true.mp hnm.1 _ h
  simpa using this
 have nm2:∀x d,clv.lookup x=some d->fd.scope.names.lookup x=some .free/\(x==("__classdict__":Str))=false:=λx d h=>by
  have:=List.all_eq_true.mp hnm.2 _ (PySem.mem_of_lookup h)
  simpa using this
 let P:Avoid:=λb=>b=s.heap.objs.size\/∃x,(x,NameKind.cell)∈fd.scope.names/\cs.lookup x=some b
 have hPge:∀b,P b->@LE.le Nat _ s.heap.objs.size b:=λb hb=>by
  rcases hb with hb | ⟨x,hx,hc⟩
  ·rw [hb]; exact Nat.le_refl _
  ·rcases lay.look x with ⟨c,h1,h2,_⟩ | ⟨h1,_⟩
   ·rw [hc] at h1; cases h1; exact Nat.le_of_lt h2
   ·exact absurd hx h1
 have hPn:∀b,P b->s.heap.get? b=none:=λb hb=>cJ (aD s) (hPge b hb)
 let O':Avoid:=λb=>O b\/M b\/P b
 have live:∀(t:Shared),FrameOk env t.heap->∀b,P b->∃o,t.heap.get? b=some o:=λt fo b hb=>by
  rcases hb with hb | ⟨x,hx,hc⟩
  ·obtain⟨m,o,_,_,e,_⟩:=fo.ns; exact⟨o,by rw [hb,<- n6]; exact e⟩
  ·obtain⟨c,v,e1,o,e2,_⟩:=fo.cell x (by unfold Env.kindOf; rw [n4]; exact nm1 x _ hx)
   rw [n5,hc] at e1; cases e1
   exact⟨o,e2⟩
 have pl:Pl g O' No P env:=by
  refine⟨λx hx=>?_,λb h=>.inr (.inr h),λb o e=>⟨λz=>(by have:=u b o e; rw [hPn b z] at this; cases this),id⟩,live⟩
  rcases hx with hx | hx
  ·left; unfold fK; rw [hx]; exact n6
  ·right
   have hm:(x,NameKind.cell)∈fd.scope.names:=by unfold Env.kindOf at hx; rw [n4] at hx; exact PySem.mem_of_lookup hx
   refine⟨x,hm,?_⟩
   unfold fK; rw [hx]
   rcases lay.look x with ⟨c,h1,h2,_⟩ | ⟨h1,_⟩
   ·rw [n5,h1]; rfl
   ·exact absurd hm h1
 have hO':∀b,(s.heap.get? b).isSome=true->¬O b->¬M b->¬O' b:=λb hb ho hm z=>by
  rcases z with z | z | z
  ·exact ho z
  ·exact hm z
  ·rw [hPn b z] at hb; cases hb
 have k1:Keeps s { s with heap:=h_1 }:=⟨h_1,s.toks,rfl,lay.keep⟩
 have fo1:FrameOk env h_1:=by
  refine⟨⟨_,n6 ▸ lay.ns⟩,λx hx=>?_⟩
  have hm:(x,NameKind.cell)∈fd.scope.names:=by unfold Env.kindOf at hx; rw [n4] at hx; exact PySem.mem_of_lookup hx
  rcases lay.look x with ⟨c,h1,h2,h3,_⟩ | ⟨h1,_⟩
  ·exact⟨c,none,by rw [n5]; exact h1,h3⟩
  ·exact absurd hm h1
 have clt:∀x c,fd.closure.lookup x=some c->@LT.lt Nat _ c s.heap.objs.size:=λx c hx=>by
  obtain⟨dd,hd⟩:=hcl.only x c hx
  obtain⟨c',v,e1,e2,_⟩:=hcl.at_ x dd hd
  rw [hx] at e1; cases e1
  exact e2.lt
 have eo1:EnvOk O' No ⟨fd.scope.names,bA clv⟩ env h_1:=by
  refine⟨n1,n2,n3,n4,by rw [n5]; exact lay.apart hcl.apart clt,λx dd k hx=>?_⟩
  have hx:(bA clv).lookup x=some (dd,k):=hx
  rw [dY] at hx
  cases hd:clv.lookup x with
  | none=>rw [hd] at hx; cases hx
  | some d0 =>
   rw [hd] at hx; cases hx
   obtain⟨c,v,e1,e2,e3⟩:=hcl.at_ x _ hd
   obtain⟨f1,f2⟩:=nm2 x _ hd
   refine⟨v,.inr ⟨.inr ⟨by unfold Env.kindOf; rw [n4]; exact f1,f2⟩,c,?_,e2.keeps lay.keep⟩,(e3.wide hO' rfl).keeps lay.keep,λz=>absurd rfl z⟩
   rw [n5]
   rcases lay.look x with ⟨c',h1,h2,h3,h4⟩ | ⟨h1,h2⟩
   ·rw [nm1 x _ h4] at f1; cases f1
   ·rw [h2]; exact e1
 have a1:Act g O' No ⟨fd.scope.names,bA clv⟩ env { s with heap:=h_1 }:=by
  refine⟨u.keeps k1,λb hb=>?_,λzw h=>h.elim,eo1,fo1⟩
  rcases hb with hb | hb | hb
  ·exact aO.keeps k1 b hb
  ·exact aM.keeps k1 b hb
  ·exact live { s with heap:=h_1 } fo1 b hb
 refine kC pl params vs ds _ V { s with heap:=h_1 } _ hρ hps ((rs.wide hO' rfl).keeps lay.keep) a1 λs2 c2 a2=>⟨g.lim.keeps a2.up,?_⟩
 refine q O' P env s2 pl ⟨rm.handled,by show A.depth+1+2*n+2 < recursionLimit; grind,by show A.units+3+30*n+60 < cLine; grind⟩ a2 (λs' c=>?_) λh v k d r=>(r.free 0).imp (λb zw h z=>h (.inl z)) (λb zw h zw z=>h (.inr (.inl z))) (Nat.le_refl _)
 have ch:Chg P s s':=(Chg.ofK k1).trans (c2.trans c)
 obtain⟨⟨h,tk,e⟩,kp⟩:=ch
 refine⟨h,tk,e,λb o eb=>?_⟩
 have:=kp b o (λz=>by rw [hPn b z] at eb; cases eb) eb
 rw [e] at this; exact this
theorem tQ {o:Obj}{fd:FuncData}{body:List Stmt}{params:List Str}{vs:List Value}{clv:List (Str×D)}
  (u:g.Up s) (rm:Room (n+1) A) (aO:Alloc O s) (aM:Alloc M s) (ho:s.heap.get? a=some o) (hdata:o.data=.func fd) (F:FnData fd body) (hcd:s.heap.CodeRec fd.code fd.qualname) (hbind:bindArgs fd ⟨vs,[]⟩=pure (params.zip vs))
  (rs:Rds O M s.heap 0 vs ds) (hcl:Clos O M s.heap fd.closure clv) (hnm:c9 fd.scope.names clv=true) (hps:params.all (stOk ⟨fd.scope.names,bA clv⟩)=true) (hρ:bN ⟨fd.scope.names,bA clv⟩ params ds=some V) (hbody:AP g n V body d)
  (q:∀v s',Keeps s s'->Rd O M s'.heap 0 v d->Q v s'):wpAny g.M A (call (.ref a) vs) Q E s :=
 wpAny_call (codeAny_call_function (prog:=g.prog) (w:=g.w) (by have:=rm.depth; grind) ho hdata F.co F.gen F.body hcd (wp_frame u rm aO aM F.kind F.gl F.bl hbind rs hcl hnm hps hρ λO' P env s2 pl rm' a2 kp rd=>codeAny_func (hbody O' P env (A.deeper env) s2 _ _ pl rm' a2 λv k s' r c=>q v s' (kp s' c) (rd _ _ _ _ r))))
theorem gG {c:Value}{dd:Option Addr}{fd:FuncData}{sl:Array (Option Value)}{body:List Stmt}{params:List Str}
  (hK:g.K.lookup a=some ⟨c,dd,.func fd,sl⟩) (F:FnData fd body) (hclo:fd.closure=[]) (hcd:g.h.CodeRec fd.code fd.qualname) (hbind:∀vs:List Value,vs.length=params.length->bindArgs fd ⟨vs,[]⟩=pure (params.zip vs))
  (hlen:params.length=ds.length) (hnm:c9 fd.scope.names []=true) (hps:params.all (stOk ⟨fd.scope.names,[]⟩)=true) (hρ:bN ⟨fd.scope.names,[]⟩ params ds=some V) (hbody:AP g n V body d):aZ g (n+1) (.ref a) ds 0 d 0 :=
 λO M A s E vs u rm aO aM rs=>tQ (clv:=[]) u rm aO aM (u _ _ (g.X _ _ hK)) rfl F (hcd.keeps u) (hbind vs (by rw [rs.length,hlen])) rs (by rw [hclo]; exact⟨λx d h=>(by cases h),λx c h=>(by cases h),λx y c h=>(by cases h)⟩) hnm hps hρ hbody λv s' k r=>⟨k,r⟩
set_option backward.match.sparseCases false
section
theorem xI {vs:List Value}{e f:D}(r:Rds O M h k vs [d,e,f]):∃v w x,vs=[v,w,x]/\Rd O M h k v d/\Rd O M h k w e/\Rd O M h k x f:=by
 exact r.three_inv
theorem rds_one {vs:List Value}(r:Rds O M h k vs [d]):∃v,vs=[v]/\Rd O M h k v d:=by
 exact r.one_inv
theorem Rds.of {O M:Avoid}{h:Heap}{k:Nat}:∀{vs:List Value} {ds:List D},vs.length=ds.length->(∀(j:Nat) v d,vs[j]?=some v->ds[j]?=some d->Rd O M h k v d)->Rds O M h k vs ds
 | [],[],_,_=>.nil
 | [],_::_,h,_=>by cases h
 | _::_,[],h,_=>by cases h
 | v::vs,d::ds,h,r=>.cons (r 0 v d rfl rfl) (Rds.of (by simpa using h) λj v d h1 h2=>r (j+1) v d (by simpa using h1) (by simpa using h2))
section
theorem zJ {p1 p2 pos':Pos}{e1 e2 e3:Expr}{a b c:Int}(N:Names g)(hcl:Callee g "list" (.type "list"))(hsc:V.sc.lookup ("range":Str)=some .globalImplicit)(hsl:V.sc.lookup ("list":Str)=some .globalImplicit)(x:EvS g n V e1 (.int a) k)(y:EvS g n V e2 (.int b) k)(z:EvS g n V e3 (.int c) k)
  (hs:[e1,e2,e3].all aQ=true) (h:fL a b c=true) (hz:(bF a b c).length<=cap) :
  EvF g n V (.Call (.Name "list" p2) [.Call (.Name "range" p1) [e1,e2,e3] [] pos] [] pos') ((bF a b c).map .int):=λO env A s E u rm aO eo=>by
 have hs':=hs
 simp only [List.all_cons,List.all_nil,Bool.and_true,Bool.and_eq_true] at hs'
 have aN:Alloc No s:=λzw h=>h.elim
 cases hcl with
 | ty l1 l2 l3 =>
 cases N.range with
 | ty h1 h2 h3 =>
  refine Call_ (aT u eo hsl l1 l2 l3 (by decide) (PySem.callWith_type (aL rfl) (aK rfl ?_)))
  refine wpAny_items_cons ?_ rfl
  refine Call_ (aT u eo hsc h1 h2 h3 (by decide) (PySem.callWith_type (aL hs) (aK hs (wpAny_mono ((cQ x (cQ y (cQ z dX hs'.2.2) hs'.2.1) hs'.1) O No env A s E pos u rm aO aN eo) (λvs sa hJ0=>?_) λzw zw z=>z))))
  obtain⟨k1,r1⟩:=hJ0
  obtain⟨v1,v2,v3,rfl,ra,rb,rc⟩:=xI r1
  obtain⟨t1,rfl⟩:=aH ra
  obtain⟨t2,rfl⟩:=aH rb
  obtain⟨t3,rfl⟩:=aH rc
  obtain⟨z1,z2,z3⟩:=iM h
  have hcz:0 < c/\c<=1000:=by
   unfold fL at h
   simp only [Bool.and_eq_true,decide_eq_true_eq] at h
   exact⟨h.1.2,h.2⟩
  refine call_range_3 (by grind) ?_ (Or.inl (PyProof.noPylong_small (by grind)))
  refine wpAny_items_nil ?_
  have hn:Builtin.Range.rangeSize a b c=((Builtin.Range.rangeSize a b c).toNat:Int):=(Int.toNat_of_nonneg z1).symm
  refine call_list_range (n:=(Builtin.Range.rangeSize a b c).toNat) rm.handled (Heap.get?_push_size _ rfl) z3 hn (by grind) λh' tk acc' c' hk hS hI=>?_
  have k2:Keeps sa { sa with heap:=h',toks:=tk }:=⟨h',tk,rfl,λb o e=>hk b o (Heap.get?_push_of_some _ e)⟩
  have kk:=aB k1 k2
  have hlen:(bF a b c).length=(Builtin.Range.rangeSize a b c).toNat:=by simp [bF]
  refine⟨kk,_,rfl,cJ k1 (by rw [Heap.size_push]; exact Nat.le_succ _),?_⟩
  obtain⟨i1,i2⟩:=hI
  refine .list (λz=>?_) (λzw=>id) (by rw [i1,<- hlen]; exact hz) hS (Rds.of (by rw [Array.length_toList,i1,List.length_map,hlen]) λj v d h1 h2=>?_)
  ·obtain⟨o,e⟩:=aO.keeps k1 _ z
   have:@LT.lt Nat _ _ _:=Heap.lt_size e
   rw [Heap.size_push] at this
   omega
  ·rw [Array.getElem?_toList] at h1
   obtain⟨t,rfl⟩:=i2 j v h1
   unfold bF at h2
   simp only [List.map_map,List.getElem?_map,Option.map_eq_some_iff] at h2
   obtain⟨q,hq,rfl⟩:=h2
   obtain⟨hl,rfl⟩:=List.getElem?_eq_some_iff.mp hq
   simp only [List.getElem_range,Function.comp]
   exact .int
end
noncomputable def repE (R:Ev) (V:Rho) (l i:Expr):Operator->Option (List D)
 | .Mult=>dkL (R.e V l) λds zw=>dkI (R.e V i) λz zw=>(j9 ds).bind λis=>if 0<=z/\is.length*z.toNat<=cap/\z<=cap then some (repL (is.map .int) z.toNat) else none
 | _=>none
noncomputable def binF (R:Ev) (V:Rho) (e:Expr):Option (List D):=onBin (λl op i zw=>repE R V l i op) e
noncomputable def rng3 (R:Ev) (V:Rho) (f f':Str):List Expr->Option (List D)
 | []=>none
 | a::r=>l12 (λzw=>none) (λb c=>if (f==("list":Str))=true/\(f'==("range":Str))=true/\V.sc.lookup f=some .globalImplicit/\V.sc.lookup f'=some .globalImplicit/\[a,b,c].all aQ=true then
  dkI (R.e V a) λx zw=>dkI (R.e V b) λy zw=>dkI (R.e V c) λz zw=>if fL x y z=true/\(bF x y z).length<=cap then some ((bF x y z).map .int) else none else none) r
noncomputable def rngF (R:Ev) (V:Rho) (e:Expr):Option (List D):=(vY e).bind λq=>l1 (λc=>(vY c).bind λq'=>rng3 R V q.1 q'.1 q'.2) q.2
noncomputable def sX (R:Ev) (V:Rho) (e:Expr):Option (List D) :=
 orE (binF R V e) id (orE (rngF R V e) id (dkL (R.e ⟨V.sc,[]⟩ e) λds k=>if k=0 then some ds else none))
section
variable {R:Ev}
theorem binF_ok (ok:R.Ok g n)(h:binF R V e=some ds):EvF g n V e ds:=by
 refine onBin_el (P:=λe=>EvF g n V e ds) h λl op i p h=>?_
 cases op <;> try exact no h
 refine lE (show dkL (R.e V l) (λds zw=>dkI (R.e V i) λz zw=>(j9 ds).bind λis=>if 0<=z/\is.length*z.toNat<=cap/\z<=cap then some (repL (is.map .int) z.toNat) else none)=some ds from h) λxs k hl h=>iE h λz kz hz h=>bd h λis hi h=>sm (gd h).2 ?_
 exact zI (ok.e _ _ _ _ (fH hi ▸ hl)) (ok.e _ _ _ _ hz) (gd h).1.1 (gd h).1.2.1 (gd h).1.2.2
theorem rng3_ok (N:Names g)(hcl:Callee g "list" (.type "list"))(ok:R.Ok g n){f f':Str}{as:List Expr}{p' pos':Pos}(h:rng3 R V f f' as=some ds):EvF g n V (.Call (.Name f p) [.Call (.Name f' p') as [] pos] [] pos') ds:=by
 cases as with
 | nil=>exact no h
 | cons a r =>
  refine l12E (P:=λr=>EvF g n V (.Call (.Name f p) [.Call (.Name f' p') (a::r) [] pos] [] pos') ds) h (λzw h=>no h) λb c h=>?_
  obtain⟨⟨e1,e2,hsc,hsc',hs⟩,h2⟩:=gd h
  obtain rfl:=beq_iff_eq.mp e1
  obtain rfl:=beq_iff_eq.mp e2
  exact iE h2 λx zw hx h=>iE h λy zw hy h=>iE h λz zw hz h=>sm (gd h).2 (zJ (k:=9) N hcl hsc' hsc (ok.e _ _ _ _ hx).up' (ok.e _ _ _ _ hy).up' (ok.e _ _ _ _ hz).up' hs (gd h).1.1 (gd h).1.2)
theorem pW (N:Names g)(hcl:Callee g "list" (.type "list"))(ok:R.Ok g n)(h:sX R V e=some ds):EvF g n V e ds :=
 fP h (λa ha z=>binF_ok ok (ha.trans (congrArg some z))) λh=>fP h
  (λa ha z=>bd ha λq hq ha=>oG (P:=λe=>EvF g n V e ds) hq λp pos=>l1E (P:=λas=>EvF g n V (.Call (.Name q.1 p) as [] pos) ds) ha λc ha=>bd ha λq' hq' ha =>
   oG (P:=λc=>EvF g n V (.Call (.Name q.1 p) [c] [] pos) ds) hq' λp' pos'=>rng3_ok N hcl ok (ha.trans (congrArg some z)))
  λh=>lE h λxs k hr h=>sm (gd h).2 (evf_of (ok.e _ _ _ _ ((gd h).1 ▸ hr)))
end
noncomputable def x6 (V:Rho) (x:Str) (np:Pos):Expr->Bool
 | .ListComp _ _ scope cp=>!cE V scope x np cp
 | e=>fO e
noncomputable def fin (B:Rho->Option D) (r:Fl×Rho):Option D:=match r.1 with
 | .next=>B r.2
 | .brk=>none
 | .cont=>none
 | .ret d=>some d
noncomputable def mB (R:Ev) (X:Rho->List Stmt->Option (Fl×Rho)) (B:Rho->List Stmt->Option D) (V:Rho) (st:Stmt) (rest:List Stmt):Option D:=(bB R X V st).bind (fin λV'=>B V' rest)
noncomputable def nameA (st:Stmt):Option (Str×Pos×Expr×Pos):=onAsg (λts e p=>l1 (λt=>(nmP t).bind λx=>some (x.1,x.2,e,p)) ts) st
theorem x9 {st:Stmt}{q:Str×Pos×Expr×Pos}(h:nameA st=some q):st=.Assign [.Name q.1 q.2.1] q.2.2.1 q.2.2.2:=by
 refine onAsg_el (P:=λst=>st=.Assign [.Name q.1 q.2.1] q.2.2.1 q.2.2.2) h λts e p h=>l1E (P:=λts=>Stmt.Assign ts e p=_) h λt h=>bd h λx hx h=>?_
 cases h
 rw [nmP_inv hx]
noncomputable def ownB (R:Ev) (B:Rho->List Stmt->Option D) (V:Rho) (x:Str) (np:Pos) (e:Expr) (rest:List Stmt):Option D :=
 if stOk V x=true/\x6 V x np e=true then (sX R V.lvl0 e).bind λds=>if plainDs ds=true then B (V.lvl0.put x (.list ds) 1) rest else none else none
noncomputable def nS (owns:List Str) (st:Stmt):Option (Str×Pos×Expr×Pos):=(nameA st).bind λq=>if owns.contains q.1=true then some q else none
noncomputable def bodyStep (R:Ev) (owns:List Str) (X:Rho->List Stmt->Option (Fl×Rho)) (B:Rho->List Stmt->Option D) (V:Rho):List Stmt->Option D
 | []=>none
 | st::rest=>(match nS owns st with
  | some q=>ownB R B V q.1 q.2.1 q.2.2.1 rest
  | none=>mB R X B V st rest)
noncomputable def cB (R:Ev) (owns:List Str):Nat->Rho->List Stmt->Option D
 | 0,_,_=>none
 | n+1,V,ss=>bodyStep R owns (run R n) (cB R owns n) V ss
theorem notT {b:Bool}(h:(!b)=true):b=false:=by cases b <;> first | rfl | exact nb h | cases h
theorem x5 (h:x6 V x np e=true){hh:Heap}(eo:EnvOk O M V.lvl0 env hh):swapsWith e (some (.Name x np)) p.line env=pure false:=by
 cases e with
 | ListComp elt gens scope cp =>
  rw [kB eo]
  show(pure (cE V scope x np cp):Sem Bool)=pure false
  rw [notT (show(!cE V scope x np cp)=true from h)]
 | SetComp=>cases h
 | DictComp=>cases h
 | _=>exact aJ rfl _ _ _
theorem d6 {g:Glob}{n:Nat}{R:Ev}{owns:List Str}(N:Names g)(hcl:Callee g "list" (.type "list"))(ok:R.Ok g n):∀(m:Nat) {V:Rho} {ss:List Stmt} {d:D},cB R owns m V ss=some d->BodyO g n V ss d
 | 0,V,ss,d,h=>no h
 | m+1,V,[],d,h=>no h
 | m+1,V,st::rest,d,h=>by
  have h:(match nS owns st with | some q=>ownB R (cB R owns m) V q.1 q.2.1 q.2.2.1 rest | none=>mB R (run R m) (cB R owns m) V st rest)=some d:=h
  cases ho:nS owns st with
  | none =>
   rw [ho] at h
   refine bd (show(bB R (run R m) V st).bind (fin λV'=>cB R owns m V' rest)=some d from h) λr hs h=>?_
   obtain⟨fl,V'⟩:=r
   cases fl with
   | next=>exact bo_cons (kD ok m hs) (d6 N hcl ok m h)
   | ret d'=>cases h; exact bo_stop (kD ok m hs)
   | _=>exact no h
  | some q =>
   rw [ho] at h
   have hq:nameA st=some q:=bd ho λq' e z=>(gd z).2 ▸ e
   rw [x9 hq]
   refine bd (gd h).2 λds hf h'=>?_
   exact bo_free (br_own (gd h).1.1 (λO M env hh eo=>x5 (gd h).1.2 eo) (pW N hcl ok hf) (gd h').1 (d6 N hcl ok m (gd h').2))
end
set_option backward.match.sparseCases true
section
open PySem.Builtin PySem.Builtin.ObjectAttr PySem.Builtin.Getset_descriptor
section
variable {prog:Program} {w:World} {K:Frag} {x C p dx:Addr} {ox ox' od od':Obj} {name:Str} {i:Nat} {Q:Unit->Shared->Prop}
theorem uB {odo:Option Obj}(X:K.In s.heap)(I:InstAt s.heap x ox C odo)(hp:slotIn K p C=some i)(hi:i < 1000)
  (e:{ ox with slots:=(ox.slots++Array.replicate (i+1 - ox.slots.size) none).setIfInBounds i (some v) }=ox') (hf:ox'.isFreed=false)
  (h:∀h',Heap.SameBut x s.heap h'->h'.get? x=some ox'->R (.ok (.ret .none)) { s with heap:=h' }) :
  codeAny (model prog w) A (.call (.builtin "member_descriptor.__set__") ⟨[.ref p,.ref x,v],[]⟩) R s:=by
 obtain⟨n,tn,owner,behind,tb,d,sl,cd,ho,hc,hm,hb,rfl⟩:=slot_of X hp
 have hx:=I.at_
 have U2:(s.heap.update x λo=>{ o with slots:=(o.slots++Array.replicate (cd.slotNames.length - 1 - behind.toNat+1 - o.slots.size) none).setIfInBounds (cd.slotNames.length - 1 - behind.toNat) (some v) }).get? x=some ox':=by
  have:=Heap.get?_update_self (λo:Obj=>{ o with slots:=(o.slots++Array.replicate (cd.slotNames.length - 1 - behind.toNat+1 - o.slots.size) none).setIfInBounds (cd.slotNames.length - 1 - behind.toNat) (some v) }) hx (by rw [e]; exact hf)
  rw [this,e]
 obtain⟨hh,g,dr,t,os⟩:=s
 have L0:=I.type (M:=model prog w)
 have L1:=looks_mroIn (M:=model prog w) X hm
 have L2:Looks (model prog w) hh (Slots.slotNamesOf (.ref C)) cd.slotNames:=(looks_clsIn X hc).andThen .now
 dsimp only at ho hx L0 L1
 have f0:=looks_field (M:=model prog w) ho 0 (v:=.str n tn) rfl
 have f1:=looks_field (M:=model prog w) ho 1 (v:=owner) rfl
 have f3:=looks_field (M:=model prog w) ho 3 (v:=.builtin "proto.slot#set") rfl
 have f4:=looks_field (M:=model prog w) ho 4 (v:=.int behind tb) rfl
 refine codeAny_call_builtin KF.slot_mset.plain KF.entry_mset (KF.slot_mset.check _ _ _ _ _ _ _ _ ⟨_,ho,rfl⟩ (KF.args_mset _ _ _) ?_)
 unfold Builtin.«member_descriptor.__set__» descrSet descrStoreThrough descrCheckInstance descrNameAndClass isInstance
 have f5:Looks (model prog w) hh (descrItself (.ref p)) [.ref p]:=((Looks.ld (part:=none) ho).andThen .now).andThen (Looks.of_pure (by kernel_rfl))
 repeat lk
 refine⟨Code.quiet_builtin _ (by decide +kernel),codeAny_builtin KF.entry_slotset ?_⟩
 unfold Builtin.«proto.slot#set» Slots.target
 repeat lk
 rw [if_neg hb]
 refine wpAny_pure (wpAny_bind ?_)
 unfold setSlotAt
 dsimp only
 rw [if_neg (by rw [sizeLine_eq]; grind)]
 exact wpAny_updatePart hx (wpAny_pure (h _ (Heap.SameBut.update ..) U2))
theorem f9 {odo:Option Obj}(X:K.In s.heap)(I:InstAt s.heap x ox C odo)(hs:findIn K (.ref C) "__setattr__"=some (some (.builtin "object.__setattr__")))(hp:plainOver K C=true)(ht:takerIn K C name=some (some (.ref p)))(hT:typeIn K (.ref p)=some (.type "member_descriptor"))(hi:slotIn K p C=some i)(hz:i < 1000)
  (e:{ ox with slots:=(ox.slots++Array.replicate (i+1 - ox.slots.size) none).setIfInBounds i (some v) }=ox') (hf:ox'.isFreed=false)
  (h:∀h',Heap.SameBut x s.heap h'->h'.get? x=some ox'->Q () { s with heap:=h',toks:=s.toks+1 }):wpAny (model prog w) A (setAttr (.ref x) name v) Q E s :=
 set_plain X I hs (osa_descr (s:={ s with toks:=s.toks+1 }) KF.slot_mset X I hp ht hT (uB (s:={ s with toks:=s.toks+1 }) X I hi hz e hf λh' h1 h2=>h h' h1 h2))
set_option tactic.hygienic true in
theorem uO {tk:Tok}{es:List DictEntry}(X:K.In s.heap)(I:InstAt s.heap x ox C (some od))(hd:ox.dict=some dx)(hp:plainOver K C=true)(ht:takerIn K C name=some none)(hh:(clsIn K C).any (·.hasDict)=true)
  (hl:(lookIn name od).isSome=true) (e:Obj.putName name (PyData.keyHash w.params name) (.str name s.toks) v od=od') (e':od'.data=.dict es.toArray n) (hz:es.length<=1000)
  (h:∀h',Heap.SameBut dx s.heap h'->h'.get? dx=some od'->R (.ok (.ret .none)) { s with heap:=h',toks:=s.toks+1 }) :
  codeAny (model prog w) A (.call (.builtin "object.__setattr__") ⟨[.ref x,.str name tk,v],[]⟩) R s:=by
 refine osa_open X I hp ht λb=>?_
 ((show let Q0:=_; wpAny _ _ _ Q0 _ _); intro Q0)
 obtain⟨cd,hc,hd'⟩:=any_some hh
 obtain⟨hx,hcl,hn,D⟩:=I
 obtain⟨oc,odi,oda,osl⟩:=ox
 dsimp only at hcl hd D
 subst hcl hd
 dsimp only at D
 have D':(s.heap.update dx (Obj.putName name (PyData.keyHash w.params name) (.str name s.toks) v)).get? dx=some od':=by
  have:=Heap.get?_update_self (Obj.putName name (PyData.keyHash w.params name) (.str name s.toks) v) D (by rw [e]; obtain⟨_,_,dd,_⟩:=od'; cases e'; rfl)
  rw [this,e]
 refine wpAny_bind (wpAny_pure (wpAny_bind (wpAny_bind (wpAny_loadPart hx (wpAny_bind ((looks_clsIn X hc).here ?_))))))
 rw [hd']
 refine wpAny_pure (a:=some dx) (wpAny_bind (wpAny_pure (wpAny_bind ?_)))
 unfold nsSet
 refine wpAny_bind (wpAny_bind (wpAny_askSetting (wpAny_pure (wpAny_bind (wpAny_mkText (wpAny_bind (wpAny_loadPart D ?_)))))))
 unfold lookIn at hl
 split at hl
 ·rename_i es0 n0 q
  rw [q]
  dsimp only
  have c:(!es0.any (·.key.isStr name) && es0.any (·.refKey))=false:=by
   rw [<- Array.any_toList,<- Array.any_toList]
   split at hl
   ·rename_i en he
    rw [List.any_eq_true.mpr ⟨en,List.mem_of_find?_eq_some he,List.find?_some he⟩]; rfl
   ·split at hl
    ·cases hl
    ·rename_i z; rw [Bool.not_eq_true] at z; rw [z,Bool.and_false]
  rw [aRefKeyMayBeTheName_at,c]
  refine wpAny_updatePart D ?_
  refine wpAny_bind (wpAny_lookBehind D' (by rw [e']; exact pastItsLine_dict (by rw [List.size_toArray,sizeLine_eq]; (exact Nat.le_trans (by assumption) (by decide)))) ?_)
  exact wpAny_pure (h _ (Heap.SameBut.update ..) D')
 ·cases hl
theorem dN {es es':List DictEntry}{n':Nat}(X:K.In s.heap)(I:InstAt s.heap x ox C (some (dictOf es n)))(hd:ox.dict=some dx)
  (hs:findIn K (.ref C) "__setattr__"=some (some (.builtin "object.__setattr__"))) (hp:plainOver K C=true) (ht:takerIn K C name=some none) (hh:hasDictIn K C=true) (hl:(getL name es).isSome=true)
  (e:(PySem.W.putL name (PyData.keyHash w.params name) (.str name (s.toks+1)) v es,putN name es n)=(es',n')) (hz:es'.length<=1000)
  (h:∀h',Heap.SameBut dx s.heap h'->h'.get? dx=some (dictOf es' n')->Q () { s with heap:=h',toks:=s.toks+2 }) :
  wpAny (model prog w) A (setAttr (.ref x) name v) Q E s:=by
 obtain⟨e1,e2⟩:=Prod.mk.inj e
 exact set_plain X I hs (uO (s:={ s with toks:=s.toks+1 }) X I hd hp ht hh hl (by rw [putName_dict,e1,e2]) rfl hz λh' h1 h2=>h h' h1 h2)
end
end
section
open PySem.Builtin PySem.Builtin.ObjectAttr PySem.Builtin.Getset_descriptor
section
variable {prog:Program} {w:World} {K:Frag} {x C p dx:Addr} {ox od:Obj} {name:Str} {i:Nat}
theorem kX {expr:Bool}{attr:Option Value}{es:List DictEntry}(X:K.In s.heap)(I:InstAt s.heap x ox C (some (dictOf es n)))(hg:plainGet K C name=true)(hh:hasDictIn K C=true)
  (ha:findIn K (.ref C) name=some attr) (hn:noGet K attr=true) (hl:getL name es=some (some v)) (hv:handedIn v=true) (h:Q v { s with toks:=s.toks+1 }):wpAny (model prog w) A (getAttr (.ref x) name expr) Q E s :=
 get_value X I (plainGet_of hg).1 (findObj_own hh ha hn hl) hv h
theorem jA {expr:Bool}(X:K.In s.heap)(I:InstAt s.heap x ox C (some od))(hg:plainGet K C name=true)(hc:isClsIn K C=true)
  (ha:findIn K (.ref C) name=some (some (.ref p))) (hn:specialIn K (.ref p) "__get__"=some (some (.builtin "member_descriptor.__get__"))) (ht:takesIn K (.ref p)=some true) (hp:slotIn K p C=some i)
  (hv:(ox.slots[i]?).join=some v) (hh:handedIn v=true) (h:Q v { s with toks:=s.toks+1 }):wpAny (model prog w) A (getAttr (.ref x) name expr) Q E s :=
 get_bind X I (plainGet_of hg).1 (findObj_data hc ha hn ht) (plainGet_of hg).2 (wpAny_call (slot_get (s:={ s with toks:=s.toks+1 }) X I hp hv (handed_on hh h)))
theorem yB {pl:Sem Bool}{Q:Value×List Value->Shared->Prop}{f:Addr}{es:List DictEntry}(X:K.In s.heap)(I:InstAt s.heap x ox C (some (dictOf es n)))(hg:plainGet K C name=true)
  (hf:findIn K (.ref C) name=some (some (.ref f))) (ht:isFn K (.ref f)=true) (hl:getL name es=some none) (h:Q (.ref f,[.ref x]) s):wpAny (model prog w) A (getMethod (.ref x) name pl) Q E s :=
 method_fn X I (plainGet_of hg).1 (plainGet_of hg).2 hf (beq_iff_eq.mp ht) (by show(lookIn name (dictOf es n)).map _=_; rw [lookIn_dict,hl]; rfl) h
theorem yH {rest:List Value}{fI:Addr}(X:K.In s.heap)(hm:makesIn K C=true)(hi:findIn K (.ref C) "__init__"=some (some (.ref fI)))(hf:typeIn K (.ref fI)=some (.type "function"))
  (h:codeAny (model prog w) (A.under (.builtin "type.__call__" ⟨.ref C::rest,[]⟩)) (.call (.ref fI) ⟨.ref (s.heap.objs.size+1)::rest,[]⟩) (InitBack (s.heap.objs.size+1) R) { s with heap:=(s.heap.push emptyDict).push (instObj C s.heap.objs.size) }) :
  codeAny (model prog w) A (.call (.ref C) ⟨rest,[]⟩) R s:=by
 obtain⟨hh,g,d,t,os⟩:=s
 exact make_core (makes_of X hm) (looks_findIn X hi) (λself=>bind_fn X self hf) (.inl rfl) h
end
end
section
noncomputable def Cx (W F:Avoid) (s s':Shared):Prop :=
 (∃h' tk,s'={ s with heap:=h',toks:=tk })/\∀b o,¬W b->s.heap.get? b=some o->(∃sl,s'.heap.get? b=some { o with slots:=sl })/\(¬F b->s'.heap.get? b=some o)
section
variable {W W' F':Avoid} {s'':Shared}
theorem Cx.of_keeps (k:Keeps s s'):Cx W F s s':=by
 obtain⟨h,t,rfl,k⟩:=k
 exact⟨⟨h,t,rfl⟩,λb o zw e=>⟨⟨o.slots,k b o e⟩,λzw=>k b o e⟩⟩
theorem Cx.refl:Cx W F s s:=.of_keeps (aD s)
theorem Cx.of_chg (k:Chg W s s'):Cx W F s s':=⟨k.1,λb o hb e=>⟨⟨o.slots,k.2 b o hb e⟩,λzw=>k.2 b o hb e⟩⟩
theorem Cx.step {W0 F0:Avoid}{s_0:Shared}(x:Cx W0 F0 s_0 s)(y:Cx W F s s')(hW:∀b,W b->W0 b\/s_0.heap.get? b=none)(hF:∀b,F b->F0 b\/s_0.heap.get? b=none):Cx W0 F0 s_0 s':=by
 refine⟨?_,λb o hb e=>?_⟩
 ·obtain⟨h,t,rfl⟩:=x.1
  obtain⟨h',t',e⟩:=y.1
  exact⟨h',t',e⟩
 ·have nW:¬W b:=λz=>by
   rcases hW b z with z | z
   ·exact hb z
   ·rw [z] at e; cases e
  obtain⟨⟨sl,e1⟩,k1⟩:=x.2 b o hb e
  obtain⟨⟨sl',e2⟩,_⟩:=y.2 b _ nW e1
  refine⟨⟨sl',e2⟩,λhf=>(y.2 b o nW (k1 hf)).2 λz=>?_⟩
  rcases hF b z with z | z
  ·exact hf z
  ·rw [z] at e; cases e
theorem Cx.mono (x:Cx W F s s')(hW:∀b,W b->W' b)(hF:∀b,F b->F' b):Cx W' F' s s' :=
 ⟨x.1,λb o hb e=>⟨(x.2 b o (λz=>hb (hW b z)) e).1,λhf=>(x.2 b o (λz=>hb (hW b z)) e).2 λz=>hf (hF b z)⟩⟩
theorem Cx.less (x:Cx W' F' s s')(hW:∀b,W' b->W b\/s.heap.get? b=none)(hF:∀b,F' b->F b\/s.heap.get? b=none):Cx W F s s':=(Cx.refl (s:=s)).step x hW hF
theorem Cx.ns {m:Str->Option Value}(x:Cx W F s s')(h:¬W a)(n:s.heap.Ns a m):s'.heap.Ns a m:=by
 obtain⟨o,es,ep,e,hd,r⟩:=n
 obtain⟨⟨sl,e1⟩,_⟩:=x.2 a o h e
 exact⟨_,es,ep,e1,hd,r⟩
theorem Cx.cell {v:Option Value}(x:Cx W F s s')(h:¬W a)(n:s.heap.IsCell a v):s'.heap.IsCell a v:=by
 obtain⟨o,e,hd⟩:=n
 obtain⟨⟨sl,e1⟩,_⟩:=x.2 a o h e
 exact⟨_,e1,hd⟩
theorem Cx.off (x:Cx W F s s')(hW:∀b,W b->O b)(hF:∀b,F b->O b):∀b o,¬O b->s.heap.get? b=some o->s'.heap.get? b=some o :=
 λb o hb e=>(x.2 b o (λz=>hb (hW b z)) e).2 λz=>hb (hF b z)
theorem Cx.alloc (x:Cx W F s s')(a:Alloc O s)(h:∀b,W b->∃o,s'.heap.get? b=some o):Alloc O s':=λb hb=>by
 by_cases hw:W b
 ·exact h b hw
 ·obtain⟨o,e⟩:=a b hb
  obtain⟨⟨sl,e1⟩,_⟩:=x.2 b o hw e
  exact⟨_,e1⟩
theorem Cx.up (x:Cx W F s s')(u:g.Up s)(h:∀b o,g.h.get? b=some o->¬W b/\¬F b):g.Up s':=λb o e=>(x.2 b o (h b o e).1 (u b o e)).2 (h b o e).2
noncomputable def lR (env:Env) (b:Addr):Prop:=b≠env.locals/\∀x c,env.cells.lookup x=some c->b≠c
theorem Cx.envOk (x:Cx W F s s')(e:EnvOk O M V env s.heap)(hW:∀b,W b->O b/\lR env b)(hF:∀b,F b->O b):EnvOk O M V env s'.heap:=by
 refine⟨e.kind,e.gl,e.bl,e.sc,e.apart,λy d k hy=>?_⟩
 obtain⟨v,h1,h2,h3⟩:=e.vars y d k hy
 refine⟨v,?_,h2.off (x.off (λb hb=>(hW b hb).1) hF),h3⟩
 rcases h1 with ⟨a,m,b,c⟩ | ⟨a,c,b,d⟩
 ·exact .inl ⟨a,m,x.ns (λz=>(hW _ z).2.1 rfl) b,c⟩
 ·exact .inr ⟨a,c,b,x.cell (λz=>(hW _ z).2.2 _ _ b rfl) d⟩
theorem Cx.frameOk (x:Cx W F s s')(e:FrameOk env s.heap)(hW:∀b,W b->lR env b):FrameOk env s'.heap:=by
 obtain⟨⟨m,h1⟩,h2⟩:=e
 refine⟨⟨m,x.ns (λz=>(hW _ z).1 rfl) h1⟩,λy hy=>?_⟩
 obtain⟨c,v,h3,h4⟩:=h2 y hy
 exact⟨c,v,h3,x.cell (λz=>(hW _ z).2 _ _ h3 rfl) h4⟩
end
structure Frm (g:Glob) (A:Around) (F:Avoid) (h:Heap):Prop where
 fs:∃fs,A.frames=some fs/\∀env∈fs,env.scope.kind≠.module/\∃L o,env.frame=some L/\F L/\h.get? L=some o/\∀vs,o.data≠.fields vs
 gl:∀b o,g.h.get? b=some o->¬F b
theorem Frm.cx {W F':Avoid}(f:Frm g A F s.heap)(x:Cx W F' s s')(h:∀b,W b->¬F b):Frm g A F s'.heap:=by
 obtain⟨⟨fs,h1,h2⟩,h3⟩:=f
 refine⟨⟨fs,h1,λenv he=>?_⟩,h3⟩
 obtain⟨k,L,o,e1,e2,e3,e4⟩:=h2 env he
 obtain⟨⟨sl,e5⟩,_⟩:=x.2 L o (λz=>h L z e2) e3
 exact⟨k,L,_,e1,e2,e5,e4⟩
noncomputable def Glob.now (g:Glob) (s:Shared) (u:g.Up s):Glob:={ g with h:=s.heap,X:=g.X.keeps u,g:=g.g.keeps u,b:=g.b.keeps u,lim:=g.lim.keeps u }
theorem Glob.now_up (u:g.Up s):(g.now s u).Up s:=λzw zw e=>e
structure Fx where
 g:Glob
 n:Nat
 A:Around
 env:Env
 P:Avoid
 O:Avoid
 M:Avoid
 W:Avoid
 F:Avoid
 s:Shared
 Z:Avoid
 zO:Avoid
 zs:Shared
noncomputable abbrev Fx.Ar (c:Fx):Around:=c.A.deeper c.env
noncomputable abbrev Fx.Fc (c:Fx):Avoid:=λb=>c.F b\/b=c.env.locals
structure Off (c:Fx) (M:Avoid) (b:Addr):Prop where
 p:¬c.P b
 m:¬M b
 f:¬c.F b
 e:lR c.env b
 g:∀o,c.g.h.get? b≠some o
structure Run (c:Fx) (O M W:Avoid) (V:Rho) (s:Shared):Prop where
 act:Act c.g O M V c.env s
 pl:Pl c.g O M c.P c.env
 rm:Room c.n c.Ar
 fr:c.env.frame=some c.env.locals
 u0:c.g.Up c.s
 aF:Alloc c.F c.s
 aw:Alloc c.W s
 ca:∀x b,c.env.cells.lookup x=some b->∃o,s.heap.get? b=some o
 frm:Frm c.g c.A c.F s.heap
 cx:Cx c.W c.F c.s s
 oo:∀b,c.O b\/c.M b\/c.F b->O b
 on:∀b,O b->c.O b\/c.M b\/c.s.heap.get? b=none
 np:∀b,c.P b->c.s.heap.get? b=none
 nl:c.s.heap.get? c.env.locals=none
 lo:O c.env.locals
 nm:∀b,M b->c.s.heap.get? b=none
 nf:∀b,M b->¬O b
 wo:∀b,W b->O b
 ww:∀b,W b->c.W b\/c.s.heap.get? b=none
 wp:∀b,W b->Off c M b
 zk:∀b o,c.Z b->c.zs.heap.get? b=some o->s.heap.get? b=some o
 zo:∀b,c.Z b->(∃o,c.zs.heap.get? b=some o)/\¬c.P b/\¬M b/\¬W b/\¬c.Fc b
 zx:∀b,(∃o,c.zs.heap.get? b=some o)->∃o,s.heap.get? b=some o
 oz:∀b,O b->c.zO b\/c.zs.heap.get? b=none
 ou:∀b,c.zO b->O b
section
variable {c:Fx} {W:Avoid}
theorem Run.frmIn (r:Run c O M W V s):Frm c.g c.Ar c.Fc s.heap:=by
 obtain⟨⟨fs,h1,h2⟩,h3⟩:=r.frm
 refine⟨⟨c.env::fs,by show c.A.frames.map _=_; rw [h1]; rfl,λenv he=>?_⟩,λb o e z=>?_⟩
 ·rcases List.mem_cons.mp he with rfl | he
  ·obtain⟨m,o,es,ep,e,hd,_⟩:=r.act.fo.ns
   exact⟨by rw [r.act.eo.kind]; decide,_,o,r.fr,.inr rfl,e,λvs q=>by rw [hd] at q; cases q⟩
  ·obtain⟨k,L,o,e1,e2,e3⟩:=h2 env he
   exact⟨k,L,o,e1,.inl e2,e3⟩
 ·rcases z with z | z
  ·exact h3 b o e z
  ·have:=r.u0 b o e; rw [z,r.nl] at this; cases this
theorem Run.keeps (r:Run c O M W V s)(k:Keeps s s'):Run c O M W V s' :=
 { r with act:=r.act.keeps k,aw:=r.aw.keeps k,ca:=λx b h=>let ⟨o,e⟩:=r.ca x b h; ⟨o,aA k _ _ e⟩,frm:=r.frm.cx (W:=No) (F':=No) (.of_keeps k) (λzw h=>h.elim),cx:=r.cx.step (W:=No) (F:=No) (.of_keeps k) (λzw h=>h.elim) (λzw h=>h.elim),zk:=λb o hb e=>aA k _ _ (r.zk b o hb e),zx:=λb h=>let ⟨o,e⟩:=r.zx b h; ⟨o,aA k _ _ e⟩ }
theorem Run.offP (r:Run c O M W V s){b:Addr}(h:c.P b\/M b):¬W b:=λz=>by
 rcases h with h | h
 ·exact(r.wp b z).p h
 ·exact(r.wp b z).m h
theorem Run.chg (r:Run c O M W V s)(x:Chg (PM c.P M) s s')(a:Act c.g O M V' c.env s'):Run c O M W V' s':=by
 have lv:∀b,(∃o,s.heap.get? b=some o)->∃o,s'.heap.get? b=some o:=λb ⟨o,e⟩=>by
  by_cases hb:PM c.P M b
  ·rcases hb with hb | hb
   ·exact r.pl.live s' a.fo b hb
   ·exact a.aM b hb
  ·exact⟨o,x.2 b o hb e⟩
 refine { r with act:=a,aw:=λb hb=>lv b (r.aw b hb),ca:=λy b h=>lv b (r.ca y b h),frm:=?_,cx:=r.cx.step (W:=PM c.P M) (F:=No) (.of_chg x) (λb h=>.inr ?_) (λzw h=>h.elim),zk:=λb o hb e=>x.2 b o (λz=>by
   rcases z with z | z
   ·exact(r.zo b hb).2.1 z
   ·exact(r.zo b hb).2.2.1 z) (r.zk b o hb e),zx:=λb h=>lv b (r.zx b h) }
 ·have hf:=r.frm
  obtain⟨⟨fs,h1,h2⟩,h3⟩:=hf
  refine⟨⟨fs,h1,λenv he=>?_⟩,h3⟩
  obtain⟨k,L,o,e1,e2,e3,e4⟩:=h2 env he
  by_cases hL:PM c.P M L
  ·rcases hL with hL | hL
   ·obtain⟨o',e5⟩:=r.aF L e2
    rw [r.np L hL] at e5; cases e5
   ·exact absurd (r.oo L (.inr (.inr e2))) (r.nf L hL)
  ·exact⟨k,L,o,e1,e2,x.2 L o hL e3,e4⟩
 ·rcases h with h | h
  ·exact r.np b h
  ·exact r.nm b h
theorem Run.stm {st:Stmt}{f:Fl}{Q:Flow->Shared->Prop}(r:Run c O M W V s)(x:StS c.g c.n V st f V')
  (q:∀fl s',FlOk O M s'.heap f fl->Chg (PM c.P M) s s'->Run c O M W V' s'->Q fl s'):wpAny c.g.M c.Ar (exec st c.env) Q E s :=
 x O M c.P c.env c.Ar s E Q r.pl r.rm r.act λfl s' h1 h2 h3=>q fl s' h1 h2 (r.chg h2 h3)
theorem Run.same (r:Run c O M W V s)(x:Chg (PM c.P M) s s'):∀b o,W b->s.heap.get? b=some o->s'.heap.get? b=some o :=
 λb o hb e=>x.2 b o (λz=>r.offP z hb) e
theorem Run.none0 (r:Run c O M W V s){b:Addr}(hb:s.heap.get? b=none):c.s.heap.get? b=none:=by
 by_cases hw:c.W b
 ·obtain⟨o,e⟩:=r.aw b hw; rw [hb] at e; cases e
 ·cases hq:c.s.heap.get? b with
  | none=>rfl
  | some o=>obtain⟨⟨sl,e⟩,_⟩:=r.cx.2 b o hw hq; rw [hb] at e; cases e
theorem Run.offNew (r:Run c O M W V s){b:Addr}(hb:s.heap.get? b=none):Off c M b:=by
 have h0:=r.none0 hb
 refine⟨λz=>?_,λz=>?_,λz=>?_,⟨λz=>?_,λx c' hx z=>?_⟩,λo z=>?_⟩
 ·obtain⟨o,e⟩:=r.pl.live s r.act.fo b z; rw [hb] at e; cases e
 ·obtain⟨o,e⟩:=r.act.aM b z; rw [hb] at e; cases e
 ·obtain⟨o,e⟩:=r.aF b z; rw [h0] at e; cases e
 ·obtain⟨m,o,_,_,e,_⟩:=r.act.fo.ns; rw [<- z,hb] at e; cases e
 ·obtain⟨o,e⟩:=r.ca x c' hx; rw [<- z,hb] at e; cases e
 ·have:=r.act.up b o z; rw [hb] at this; cases this
theorem Run.fcO (r:Run c O M W V s):∀b,c.Fc b->O b:=λb h=>by
 rcases h with h | h
 ·exact r.oo b (.inr (.inr h))
 ·rw [h]; exact r.lo
theorem Run.eff {W':Avoid}(r:Run c O M W V s)(x:Cx W c.Fc s s')(hw:∀b,W b->W' b)(hn:∀b,W' b->W b\/s.heap.get? b=none)(ha:Alloc W' s'):Run c (λb=>O b\/W' b) M W' V s':=by
 have hoff:∀b,W' b->Off c M b:=λb h=>by
  rcases hn b h with h | h
  ·exact r.wp b h
  ·exact r.offNew h
 have lv:∀b,(∃o,s.heap.get? b=some o)->∃o,s'.heap.get? b=some o:=λb ⟨o,e⟩=>by
  by_cases hb:W b
  ·exact ha b (hw b hb)
  ·obtain⟨⟨sl,e⟩,_⟩:=x.2 b o hb e; exact⟨_,e⟩
 have eo:EnvOk O M V c.env s'.heap:=x.envOk r.act.eo (λb hb=>⟨r.wo b hb,(r.wp b hb).e⟩) r.fcO
 have act:Act c.g (λb=>O b\/W' b) M V c.env s':=by
  refine⟨x.up r.act.up λb o e=>⟨λz=>(r.wp b z).g o e,r.frmIn.gl b o e⟩,λb hb=>?_,λb hb=>lv b (r.act.aM b hb),?_,x.frameOk r.act.fo λb hb=>(r.wp b hb).e⟩
  ·rcases hb with hb | hb
   ·exact lv b (r.act.aO b hb)
   ·exact ha b hb
  ·refine⟨eo.kind,eo.gl,eo.bl,eo.sc,eo.apart,λy d k hy=>?_⟩
   obtain⟨v,h1,h2,h3⟩:=r.act.eo.vars y d k hy
   obtain⟨v',g1,g2,g3⟩:=eo.vars y d k hy
   have ev:v'=v:=by
    have h1':VarAt c.env s'.heap y v:=by
     rcases h1 with ⟨a,m,b,c⟩ | ⟨a,c,b,d⟩
     ·exact .inl ⟨a,m,x.ns (λz=>(r.wp _ z).e.1 rfl) b,c⟩
     ·exact .inr ⟨a,c,b,x.cell (λz=>(r.wp _ z).e.2 _ _ b rfl) d⟩
    rcases h1' with ⟨a,m,b,c⟩ | ⟨a,c,b,d⟩
    ·rcases g1 with ⟨a',m',b',c'⟩ | ⟨a',c',b',d'⟩
     ·obtain⟨o,es,ep,e,hd,_,hf⟩:=b
      obtain⟨o',es',ep',e',hd',_,hf'⟩:=b'
      rw [e] at e'; cases e'
      rw [hd] at hd'; cases hd'
      rw [<- hf] at c; rw [<- hf',c] at c'; cases c'; rfl
     ·rcases a' with a' | ⟨a',_⟩ <;> (rw [a] at a'; cases a')
    ·rcases g1 with ⟨a',m',b',c'⟩ | ⟨a',c',b',d'⟩
     ·rcases a with a | ⟨a,_⟩ <;> (rw [a] at a'; cases a')
     ·rw [b] at b'; cases b'
      obtain⟨o,e,hd⟩:=d
      obtain⟨o',e',hd'⟩:=d'
      rw [e] at e'; cases e'
      rw [hd] at hd'; cases hd'; rfl
   subst ev
   refine⟨v',g1,?_,g3⟩
   have h2':Rd (λb=>O b\/W' b) M s.heap k v' d:=h2.imp (λb hb ho z=>by
    rcases z with z | z
    ·exact ho z
    ·rcases hn b z with z | z
     ·exact ho (r.wo b z)
     ·rw [z] at hb; cases hb) (λzw zw zw a=>a) (Nat.le_refl _)
   exact h2'.off (x.off (λb hb=>.inl (r.wo b hb)) λb hb=>.inl (r.fcO b hb))
 refine { act:=act,pl:=⟨r.pl.store,λb h=>.inl (r.pl.po b h),r.pl.pg,r.pl.live⟩,rm:=r.rm,fr:=r.fr,u0:=r.u0,aF:=r.aF,aw:=λb hb=>lv b (r.aw b hb),ca:=λy b h=>lv b (r.ca y b h),frm:=r.frm.cx x λb hb=>(r.wp b hb).f,cx:=r.cx.step x r.ww λb hb=>?_,oo:=λb h=>.inl (r.oo b h),on:=λb h=>?_,np:=r.np,nl:=r.nl,lo:=.inl r.lo,nm:=r.nm,nf:=λb hb z=>?_,wo:=λb h=>.inr h,ww:=λb h=>?_,wp:=hoff,zk:=λb o hb e=>(x.2 b o (r.zo b hb).2.2.2.1 (r.zk b o hb e)).2 (r.zo b hb).2.2.2.2,zo:=λb hb=>?_,zx:=λb h=>lv b (r.zx b h),oz:=λb h=>?_,ou:=λb h=>.inl (r.ou b h) }
 ·rcases hb with hb | hb
  ·exact .inl hb
  ·exact .inr (by rw [hb]; exact r.nl)
 ·rcases h with h | h
  ·exact r.on b h
  ·rcases hn b h with h | h
   ·exact r.on b (r.wo b h)
   ·exact .inr (.inr (r.none0 h))
 ·rcases z with z | z
  ·exact r.nf b hb z
  ·exact(hoff b z).m hb
 ·rcases hn b h with h | h
  ·exact r.ww b h
  ·exact .inr (r.none0 h)
 ·have z:=r.zo b hb
  refine⟨z.1,z.2.1,z.2.2.1,λhw'=>?_,z.2.2.2.2⟩
  rcases hn b hw' with h | h
  ·exact z.2.2.2.1 h
  ·obtain⟨o,e⟩:=z.1
   rw [r.zk b o hb e] at h; cases h
 ·rcases h with h | h
  ·exact r.oz b h
  ·rcases hn b h with h | h
   ·exact r.oz b (r.wo b h)
   ·right
    cases e:c.zs.heap.get? b with
    | none=>rfl
    | some o=>obtain⟨o',e'⟩:=r.zx b ⟨o,e⟩; rw [h] at e'; cases e'
noncomputable def Fx.prot (c:Fx) (Z O:Avoid) (t:Shared):Fx:={ c with Z:=Z,zO:=O,zs:=t }
theorem Run.prot (r:Run c O M W V s){Z:Avoid}(h:∀b,Z b->(∃o,s.heap.get? b=some o)/\¬c.P b/\¬M b/\¬W b/\¬c.Fc b):Run (c.prot Z O s) O M W V s :=
 {
  act:=r.act,pl:=r.pl,rm:=r.rm,fr:=r.fr,u0:=r.u0,aF:=r.aF,aw:=r.aw,ca:=r.ca,frm:=r.frm,cx:=r.cx,oo:=r.oo,on:=r.on,np:=r.np,nl:=r.nl,lo:=r.lo,nm:=r.nm,nf:=r.nf,wo:=r.wo,ww:=r.ww,
  wp:=λb hb=>let w:=r.wp b hb; ⟨w.p,w.m,w.f,w.e,w.g⟩
  zk:=λzw zw zw e=>e,zo:=h,zx:=λzw h=>h,oz:=λzw h=>.inl h,ou:=λzw h=>h }
theorem Run.unprot {Z O0:Avoid}{t:Shared}{O1 M1 W1:Avoid}{V1:Rho}(r:Run (c.prot Z O0 t) O M W V s)(r1:Run c O1 M1 W1 V1 t)(hZ:∀b,c.Z b->Z b)(hO:∀b,O0 b->O1 b)(hO':∀b,c.zO b->O0 b):Run c O M W V s :=
 {
  act:=r.act,pl:=r.pl,rm:=r.rm,fr:=r.fr,u0:=r.u0,aF:=r.aF,aw:=r.aw,ca:=r.ca,frm:=r.frm,cx:=r.cx,oo:=r.oo,on:=r.on,np:=r.np,nl:=r.nl,lo:=r.lo,nm:=r.nm,nf:=r.nf,wo:=r.wo,ww:=r.ww,
  wp:=λb hb=>let w:=r.wp b hb; ⟨w.p,w.m,w.f,w.e,w.g⟩
  zk:=λb o hb e=>r.zk b o (hZ b hb) (r1.zk b o hb e)
  zo:=λb hb=>⟨(r1.zo b hb).1,(r.zo b (hZ b hb)).2⟩
  zx:=λb h=>r.zx b (r1.zx b h)
  oz:=λb h=>by
   rcases r.oz b h with h | h
   ·exact r1.oz b (hO b h)
   ·right
    cases e:c.zs.heap.get? b with
    | none=>rfl
    | some o=>obtain⟨o',e'⟩:=r1.zx b ⟨o,e⟩; rw [show t.heap.get? b=none from h] at e'; cases e'
  ou:=λb h=>r.ou b (hO' b h) }
end
end
variable {c:Fx}
structure AtH (g:Glob) (A:Around) (O M W F:Avoid) (s:Shared):Prop where
 up:g.Up s
 aO:Alloc O s
 aM:Alloc M s
 aF:Alloc F s
 frm:Frm g A F s.heap
 wo:∀b,W b->O b
 fo:∀b,F b->O b
 wf:∀b,W b->¬F b
 wg:∀b,W b->∀o,g.h.get? b≠some o
structure At (g:Glob) (n:Nat) (A:Around) (O M W F:Avoid) (s:Shared):Prop extends AtH g A O M W F s where
 rm:Room n A
theorem AtH.keeps {W:Avoid}(a:AtH g A O M W F s)(k:Keeps s s'):AtH g A O M W F s' :=
 { a with up:=a.up.keeps k,aO:=a.aO.keeps k,aM:=a.aM.keeps k,aF:=a.aF.keeps k,frm:=a.frm.cx (W:=No) (F':=No) (.of_keeps k) λzw h=>h.elim }
theorem At.keeps {W:Avoid}(a:At g n A O M W F s)(k:Keeps s s'):At g n A O M W F s' :=
 { a with up:=a.up.keeps k,aO:=a.aO.keeps k,aM:=a.aM.keeps k,aF:=a.aF.keeps k,frm:=a.frm.cx (W:=No) (F':=No) (.of_keeps k) λzw h=>h.elim }
theorem Run.at {W:Avoid}(r:Run c O M W V s):At c.g c.n c.Ar O M W c.Fc s where
 up:=r.act.up
 rm:=r.rm
 aO:=r.act.aO
 aM:=r.act.aM
 aF:=λb h=>r.act.aO b (r.fcO b h)
 frm:=r.frmIn
 wo:=r.wo
 fo:=r.fcO
 wf:=λb h z=>by
  rcases z with z | z
  ·exact(r.wp b h).f z
  ·exact(r.wp b h).e.1 z
 wg:=λb h=>(r.wp b h).g
theorem qE {W:Avoid}{o:Obj}{fd:FuncData}{body:List Stmt}{params:List Str}{args:Args}{clv:List (Str×D)}
  (at_:AtH g A O M W F s) (hrd:A.depth+2*(n+1)+2 < recursionLimit) (ho:s.heap.get? a=some o) (hdata:o.data=.func fd) (FD:FnData fd body) (hcd:s.heap.CodeRec fd.code fd.qualname)
  (hbind:wpAny g.M A.in1 (bindArgs fd args) (λbinds s_1=>∃vs,binds=params.zip vs/\Keeps s s_1/\Rds O M s_1.heap 0 vs ds) (λe s'=>R (.error e) s') s)
  (hcl:Clos O M s.heap fd.closure clv) (hcw:∀x b,fd.closure.lookup x=some b->¬W b) (hnm:c9 fd.scope.names clv=true) (hps:params.all (stOk ⟨fd.scope.names,bA clv⟩)=true) (hρ:bN ⟨fd.scope.names,bA clv⟩ params ds=some V)
  (hbody:∀(env:Env) (P O':Avoid) (s2:Shared),(Room n (A.deeper env)->Run ⟨g,n,A,env,P,O,M,W,F,s,No,O',s2⟩ O' No W V s2)->Act g O' No V env s2->Pl g O' No P env->Chg P s s2->(∀b,P b->s.heap.get? b=none)->(∀b,O b->O' b)->(∀b,W b->lR env b)->env.code=fd.code->env.qual=fd.qualname++".<locals>."->(∀b o,s.heap.get? b=some o->s2.heap.get? b=some o) →
   wpAny g.M (A.deeper env) (execs body env) (λf s'=>R (.ok (.ret (match f with | .ret v=>v | _=>.none))) s')
    (λe s'=>wpAny g.M (A.deeper env) (leaving env e) (λzw s''=>R (.error e) s'') (λe' s''=>R (.error e') s'') s') s2) :
  codeAny g.M A (.call (.ref a) args) R s:=by
 refine codeAny_call_function (prog:=g.prog) (w:=g.w) (by grind) ho hdata FD.co FD.gen FD.body hcd (wpAny_mono hbind (λbinds s_1 hJ0=>?_) λzw zw h=>h)
 obtain⟨vs,hb,k0,rs⟩:=hJ0
 subst hb
 have at1:=at_.keeps k0
 refine j5 λh_1 cs lay=>?_
 generalize henv:newEnv fd.scope s_1.heap.objs.size fd.globals cs (fd.qualname++".<locals>.") (some a) fd.code none fd.builtins=env
 revert henv
 revert env
 refine id ?_
 intro env henv
 have n1:env.scope.kind=.function:=by rw [<- henv]; exact FD.kind
 have n2:env.globals=mainGlobals:=by rw [<- henv]; exact FD.gl
 have n3:env.builtins=builtinsNs:=by rw [<- henv]; exact FD.bl
 have n4:env.scope.names=fd.scope.names:=by rw [<- henv]; rfl
 have n5:env.cells=cs:=by rw [<- henv]; rfl
 have n6:env.locals=s_1.heap.objs.size:=by rw [<- henv]; rfl
 have n7:env.frame=some s_1.heap.objs.size:=by rw [<- henv]; rfl
 have n8:env.code=fd.code:=by rw [<- henv]; rfl
 have n9:env.qual=fd.qualname++".<locals>.":=by rw [<- henv]; rfl
 unfold c9 at hnm
 rw [Bool.and_eq_true] at hnm
 have nm1:∀x k,(x,k)∈fd.scope.names->fd.scope.names.lookup x=some k:=λx k h=>by
  have:=List.all_eq_true.mp hnm.1 _ h
  simpa using this
 have nm2:∀x d,clv.lookup x=some d->fd.scope.names.lookup x=some .free/\(x==("__classdict__":Str))=false:=λx d h=>by
  have:=List.all_eq_true.mp hnm.2 _ (PySem.mem_of_lookup h)
  simpa using this
 let P:Avoid:=λb=>b=s_1.heap.objs.size\/∃x,(x,NameKind.cell)∈fd.scope.names/\cs.lookup x=some b
 have hPge:∀b,P b->@LE.le Nat _ s_1.heap.objs.size b:=λb hb=>by
  rcases hb with hb | ⟨x,hx,hc⟩
  ·rw [hb]; exact Nat.le_refl _
  ·rcases lay.look x with ⟨c,h1,h2,_⟩ | ⟨h1,_⟩
   ·rw [hc] at h1; cases h1; exact Nat.le_of_lt h2
   ·exact absurd hx h1
 have hPn:∀b,P b->s_1.heap.get? b=none:=λb hb=>cJ (aD s_1) (hPge b hb)
 have hPs:∀b,P b->s.heap.get? b=none:=λb hb=>cJ k0 (hPge b hb)
 let O':Avoid:=λb=>O b\/M b\/P b
 have live:∀(t:Shared),FrameOk env t.heap->∀b,P b->∃o,t.heap.get? b=some o:=λt fo b hb=>by
  rcases hb with hb | ⟨x,hx,hc⟩
  ·obtain⟨m,o,_,_,e,_⟩:=fo.ns; exact⟨o,by rw [hb,<- n6]; exact e⟩
  ·obtain⟨c,v,e1,o,e2,_⟩:=fo.cell x (by unfold Env.kindOf; rw [n4]; exact nm1 x _ hx)
   rw [n5,hc] at e1; cases e1
   exact⟨o,e2⟩
 have pl:Pl g O' No P env:=by
  refine⟨λx hx=>?_,λb h=>.inr (.inr h),λb o e=>⟨λz=>(by have:=at1.up b o e; rw [hPn b z] at this; cases this),id⟩,live⟩
  rcases hx with hx | hx
  ·left; unfold fK; rw [hx]; exact n6
  ·right
   have hm:(x,NameKind.cell)∈fd.scope.names:=by unfold Env.kindOf at hx; rw [n4] at hx; exact PySem.mem_of_lookup hx
   refine⟨x,hm,?_⟩
   unfold fK; rw [hx]
   rcases lay.look x with ⟨c,h1,h2,_⟩ | ⟨h1,_⟩
   ·rw [n5,h1]; rfl
   ·exact absurd hm h1
 have hO':∀b,(s_1.heap.get? b).isSome=true->¬O b->¬M b->¬O' b:=λb hb ho hm z=>by
  rcases z with z | z | z
  ·exact ho z
  ·exact hm z
  ·rw [hPn b z] at hb; cases hb
 have k1:Keeps s_1 { s_1 with heap:=h_1 }:=⟨h_1,s_1.toks,rfl,lay.keep⟩
 have fo1:FrameOk env h_1:=by
  refine⟨⟨_,n6 ▸ lay.ns⟩,λx hx=>?_⟩
  have hm:(x,NameKind.cell)∈fd.scope.names:=by unfold Env.kindOf at hx; rw [n4] at hx; exact PySem.mem_of_lookup hx
  rcases lay.look x with ⟨c,h1,h2,h3,_⟩ | ⟨h1,_⟩
  ·exact⟨c,none,by rw [n5]; exact h1,h3⟩
  ·exact absurd hm h1
 have cl0:∀x c,fd.closure.lookup x=some c->∃v,s.heap.IsCell c (some v):=λx c hx=>by
  obtain⟨dd,hd⟩:=hcl.only x c hx
  obtain⟨c',v,e1,e2,_⟩:=hcl.at_ x dd hd
  rw [hx] at e1; cases e1
  exact⟨v,e2⟩
 have clt:∀x c,fd.closure.lookup x=some c->@LT.lt Nat _ c s_1.heap.objs.size:=λx c hx=>by
  obtain⟨v,e2⟩:=cl0 x c hx
  exact(e2.keeps (aA k0)).lt
 have eo1:EnvOk O' No ⟨fd.scope.names,bA clv⟩ env h_1:=by
  refine⟨n1,n2,n3,n4,by rw [n5]; exact lay.apart hcl.apart clt,λx dd k hx=>?_⟩
  have hx:(bA clv).lookup x=some (dd,k):=hx
  rw [dY] at hx
  cases hd:clv.lookup x with
  | none=>rw [hd] at hx; cases hx
  | some d0 =>
   rw [hd] at hx; cases hx
   obtain⟨c,v,e1,e2,e3⟩:=hcl.at_ x _ hd
   obtain⟨f1,f2⟩:=nm2 x _ hd
   have e2:=e2.keeps (aA k0)
   have e3:=e3.keeps (aA k0)
   refine⟨v,.inr ⟨.inr ⟨by unfold Env.kindOf; rw [n4]; exact f1,f2⟩,c,?_,e2.keeps lay.keep⟩,(e3.wide hO' rfl).keeps lay.keep,λz=>absurd rfl z⟩
   rw [n5]
   rcases lay.look x with ⟨c',h1,h2,h3,h4⟩ | ⟨h1,h2⟩
   ·rw [nm1 x _ h4] at f1; cases f1
   ·rw [h2]; exact e1
 have a1:Act g O' No ⟨fd.scope.names,bA clv⟩ env { s_1 with heap:=h_1 }:=by
  refine⟨at1.up.keeps k1,λb hb=>?_,λzw h=>h.elim,eo1,fo1⟩
  rcases hb with hb | hb | hb
  ·exact at1.aO.keeps k1 b hb
  ·exact at1.aM.keeps k1 b hb
  ·exact live { s_1 with heap:=h_1 } fo1 b hb
 refine kC pl params vs ds _ V { s_1 with heap:=h_1 } _ hρ hps ((rs.wide hO' rfl).keeps lay.keep) a1 λs2 c2 a2=>⟨g.lim.keeps a2.up,codeAny_func ?_⟩
 have ch:Chg P s s2:=(Chg.ofK (aB k0 k1)).trans c2
 have lv:∀b,(∃o,s.heap.get? b=some o)->∃o,s2.heap.get? b=some o:=λb ⟨o,e⟩=>⟨o,ch.2 b o (λz=>by rw [hPs b z] at e; cases e) e⟩
 have nl:s.heap.get? env.locals=none:=by rw [n6]; exact hPs _ (.inl rfl)
 have offW:∀b,W b->lR env b:=λb h=>by
  obtain⟨ob,eb⟩:=at_.aO b (at_.wo b h)
  refine⟨λz=>?_,λx c hx z=>?_⟩
  ·have z:b=env.locals:=z
   rw [z,nl] at eb; cases eb
  ·have hx:env.cells.lookup x=some c:=hx
   rw [n5] at hx
   rcases lay.look x with ⟨c',h1,h2,h3,h4⟩ | ⟨h1,h2⟩
   ·rw [hx] at h1; cases h1
    have:P c:=.inr ⟨x,h4,hx⟩
    rw [<- z] at this
    rw [hPs b this] at eb; cases eb
   ·rw [h2] at hx
    exact hcw x c hx (z ▸ h)
 refine hbody env P O' s2 (λrm'=>{ act:=a2,pl:=pl,rm:=rm',fr:=by rw [n7,n6],u0:=at_.up,aF:=at_.aF,aw:=λb hb=>lv b (at_.aO b (at_.wo b hb)),ca:=λx b hx=>?_,frm:=at_.frm.cx (W:=P) (F':=No) (.of_chg ch) (λb hb z=>?_),cx:=(Cx.of_chg ch).less (λb hb=>.inr (hPs b hb)) (λb hb=>hb),oo:=λb h=>?_,on:=λb h=>?_,np:=hPs,nl:=nl,lo:=.inr (.inr (by left; exact n6)),nm:=λzw h=>h.elim,nf:=λzw h=>h.elim,wo:=λb h=>.inl (at_.wo b h),ww:=λb h=>.inl h,wp:=λb h=>?_,zk:=λzw zw h=>h.elim,zo:=λzw h=>h.elim,zx:=λzw h=>h,oz:=λzw h=>.inl h,ou:=λzw h=>h }) a2 pl ch hPs (λb h=>.inl h) offW n8 n9 (λb o e=>ch.2 b o (λz=>by rw [hPs b z] at e; cases e) e)
 ·have hx:env.cells.lookup x=some b:=hx
  rw [n5] at hx
  rcases lay.look x with ⟨c,h1,h2,h3,h4⟩ | ⟨h1,h2⟩
  ·obtain⟨c',v,e1,o,e2,_⟩:=a2.fo.cell x (by unfold Env.kindOf; rw [n4]; exact nm1 x _ h4)
   rw [n5,hx] at e1; cases e1
   exact⟨o,e2⟩
  ·rw [h2] at hx
   obtain⟨v,o,e2,_⟩:=cl0 x b hx
   exact lv b ⟨o,e2⟩
 ·obtain⟨o,e⟩:=at_.aF b z
  rw [hPs b hb] at e; cases e
 ·rcases h with h | h | h
  ·exact .inl h
  ·exact .inr (.inl h)
  ·exact .inl (at_.fo b h)
 ·rcases h with h | h | h
  ·exact .inl h
  ·exact .inr (.inl h)
  ·exact .inr (.inr (hPs b h))
 ·obtain⟨ob,eb⟩:=at_.aO b (at_.wo b h)
  exact⟨λz=>(by rw [hPs b z] at eb; cases eb),id,at_.wf b h,offW b h,at_.wg b h⟩
theorem code_fxq {W:Avoid}{o:Obj}{fd:FuncData}{body:List Stmt}{params:List Str}{args:Args}{clv:List (Str×D)}
  (at_:At g (n+1) A O M W F s) (ho:s.heap.get? a=some o) (hdata:o.data=.func fd) (FD:FnData fd body) (hcd:s.heap.CodeRec fd.code fd.qualname)
  (hbind:wpAny g.M A.in1 (bindArgs fd args) (λbinds s_1=>∃vs,binds=params.zip vs/\Keeps s s_1/\Rds O M s_1.heap 0 vs ds) (λe s'=>R (.error e) s') s)
  (hcl:Clos O M s.heap fd.closure clv) (hcw:∀x b,fd.closure.lookup x=some b->¬W b) (hnm:c9 fd.scope.names clv=true) (hps:params.all (stOk ⟨fd.scope.names,bA clv⟩)=true) (hρ:bN ⟨fd.scope.names,bA clv⟩ params ds=some V)
  (hbody:∀(env:Env) (P O':Avoid) (s2:Shared),Run ⟨g,n,A,env,P,O,M,W,F,s,No,O',s2⟩ O' No W V s2->env.code=fd.code->env.qual=fd.qualname++".<locals>."->(∀b o,s.heap.get? b=some o->s2.heap.get? b=some o) →
   wpAny g.M (A.deeper env) (execs body env) (λf s'=>R (.ok (.ret (match f with | .ret v=>v | _=>.none))) s')
    (λe s'=>wpAny g.M (A.deeper env) (leaving env e) (λzw s''=>R (.error e) s'') (λe' s''=>R (.error e') s'') s') s2) :
  codeAny g.M A (.call (.ref a) args) R s:=by
 have hrd:=at_.rm.depth
 have hru:=at_.rm.units
 refine qE at_.toAtH hrd ho hdata FD hcd hbind hcl hcw hnm hps hρ λenv P O' s2 mk zw zw zw zw zw zw h1 h2 h3=>hbody env P O' s2 (mk ⟨at_.rm.handled,by show A.depth+1+2*n+2 < recursionLimit; grind,by show A.units+3+30*n+60 < cLine; grind⟩) h1 h2 h3
theorem rK {W:Avoid}{o:Obj}{fd:FuncData}{body:List Stmt}{params:List Str}{args:Args}{clv:List (Str×D)}
  (at_:At g (n+1) A O M W F s) (ho:s.heap.get? a=some o) (hdata:o.data=.func fd) (FD:FnData fd body) (hcd:s.heap.CodeRec fd.code fd.qualname)
  (hbind:wpAny g.M A.in1 (bindArgs fd args) (λbinds s_1=>∃vs,binds=params.zip vs/\Keeps s s_1/\Rds O M s_1.heap 0 vs ds) (λe s'=>R (.error e) s') s)
  (hcl:Clos O M s.heap fd.closure clv) (hcw:∀x b,fd.closure.lookup x=some b->¬W b) (hnm:c9 fd.scope.names clv=true) (hps:params.all (stOk ⟨fd.scope.names,bA clv⟩)=true) (hρ:bN ⟨fd.scope.names,bA clv⟩ params ds=some V)
  (hbody:∀(env:Env) (P O':Avoid) (s2:Shared),Run ⟨g,n,A,env,P,O,M,W,F,s,No,O',s2⟩ O' No W V s2->env.code=fd.code->(∀b o,s.heap.get? b=some o->s2.heap.get? b=some o) →
   wpAny g.M (A.deeper env) (execs body env) (λf s'=>R (.ok (.ret (match f with | .ret v=>v | _=>.none))) s')
    (λe s'=>wpAny g.M (A.deeper env) (leaving env e) (λzw s''=>R (.error e) s'') (λe' s''=>R (.error e') s'') s') s2) :
  codeAny g.M A (.call (.ref a) args) R s :=
 code_fxq at_ ho hdata FD hcd hbind hcl hcw hnm hps hρ λenv P O' s2 r h1 zw h3=>hbody env P O' s2 r h1 h3
structure Nd where
 id:Int
 np:Int
 succ:List Int
structure SS where
 nodes:List Nd
 ready:Option (List Int)
 out:Int
 fin:Int
noncomputable def SS.new:SS:=⟨[],none,0,0⟩
noncomputable def SS.has (σ:SS) (k:Int):Bool:=σ.nodes.any λn=>n.id==k
noncomputable def SS.touch (σ:SS) (k:Int):SS:=if σ.has k then σ else { σ with nodes:=σ.nodes++[⟨k,0,[]⟩] }
noncomputable def SS.upd (σ:SS) (k:Int) (f:Nd->Nd):SS:={ σ with nodes:=σ.nodes.map λn=>if n.id==k then f n else n }
noncomputable def SS.succOf (σ:SS) (k:Int):List Int:=((σ.nodes.find? λn=>n.id==k).map (·.succ)).getD []
noncomputable def SS.addPred (node:Int) (σ:SS) (p:Int):SS:=(σ.touch p).upd p λn=>{ n with succ:=n.succ++[node] }
noncomputable def SS.add (σ:SS) (node:Int) (preds:List Int):SS:=preds.foldl (SS.addPred node) ((σ.touch node).upd node λn=>{ n with np:=n.np+preds.length })
noncomputable def SS.roots (σ:SS):List Int:=(σ.nodes.filter λn=>n.np==0).map (·.id)
variable {σ:SS}
set_option backward.match.sparseCases false
section
structure SlotK (K:Frag) (C:Addr) (name:Str) (p:Addr) (i:Nat):Prop where
 find:findIn K (.ref C) name=some (some (.ref p))
 get:specialIn K (.ref p) "__get__"=some (some (.builtin "member_descriptor.__get__"))
 takes:takesIn K (.ref p)=some true
 slot:slotIn K p C=some i
 type:typeIn K (.ref p)=some (.type "member_descriptor")
 taker:takerIn K C name=some (some (.ref p))
structure MethK (K:Frag) (C:Addr) (name:Str) (f:Addr):Prop where
 find:findIn K (.ref C) name=some (some (.ref f))
 fn:isFn K (.ref f)=true
 keep:keepIn K (.ref f)=true
structure AttrK (K:Frag) (C:Addr) (name:Str):Prop where
 find:findIn K (.ref C) name=some none
 taker:takerIn K C name=some none
structure ClsK (K:Frag) (C:Addr):Prop where
 get:∀name,plainGet K C name=true
 over:plainOver K C=true
 set:findIn K (.ref C) "__setattr__"=some (some (.builtin "object.__setattr__"))
 cls:isClsIn K C=true
 makes:makesIn K C=true
 keep:keepIn K (.ref C)=true
structure Topo where
 C:Addr
 N:Addr
 p0:Addr
 p1:Addr
 p2:Addr
 init:Addr
 ninit:Addr
 gni:Addr
 add:Addr
 prep:Addr
 ready:Addr
 active:Addr
 done:Addr
 cyc:Addr
structure TopoOk (K:Frag) (T:Topo):Prop where
 c:ClsK K T.C
 n:ClsK K T.N
 dict:hasDictIn K T.C=true
 s0:SlotK K T.N "node" T.p0 0
 s1:SlotK K T.N "npredecessors" T.p1 1
 s2:SlotK K T.N "successors" T.p2 2
 a1:AttrK K T.C "_node2info"
 a2:AttrK K T.C "_ready_nodes"
 a3:AttrK K T.C "_npassedout"
 a4:AttrK K T.C "_nfinished"
 minit:findIn K (.ref T.C) "__init__"=some (some (.ref T.init))
 tinit:typeIn K (.ref T.init)=some (.type "function")
 mninit:findIn K (.ref T.N) "__init__"=some (some (.ref T.ninit))
 tninit:typeIn K (.ref T.ninit)=some (.type "function")
 mgni:MethK K T.C "_get_nodeinfo" T.gni
 madd:MethK K T.C "add" T.add
 mprep:MethK K T.C "prepare" T.prep
 mready:MethK K T.C "get_ready" T.ready
 mactive:MethK K T.C "is_active" T.active
 mdone:MethK K T.C "done" T.done
 mcyc:MethK K T.C "_find_cycle" T.cyc
structure NdA where
 info:Addr
 dct:Addr
 suc:Addr
noncomputable def NdA.all (a:NdA):List Addr:=[a.info,a.dct,a.suc]
structure LayS where
 a:Addr
 dx:Addr
 m:Addr
 rd:List Addr
 ns:List NdA
noncomputable def LayS.all (l:LayS):List Addr:=l.a::l.dx::l.m::(l.rd++l.ns.flatMap NdA.all)
noncomputable abbrev LayS.W (l:LayS):Avoid:=λb=>b∈l.all
noncomputable def Ints (h:Heap) (a:Addr) (xs:List Int):Prop:=∃vs n,IsL h a vs n/\vs.size<=cap/\Rds No No h 0 vs.toList (xs.map .int)
noncomputable def NodeAt (T:Topo) (h:Heap) (a:NdA) (nd:Nd):Prop :=
 (∃t1 t2,h.get? a.info=some { cls:=.ref T.N,dict:=some a.dct,data:=.plain,slots:=#[some (.int nd.id t1),some (.int nd.np t2),some (.ref a.suc)] })/\h.get? a.dct=some emptyDict/\Ints h a.suc nd.succ
noncomputable def iA (w:World) (t1 t2 t3 t4:Tok) (m:Addr) (rv:Value) (out fin:Int) (to tf:Tok):List DictEntry :=
 [⟨PyData.keyHash w.params "_node2info",.str "_node2info" t1,.ref m⟩,⟨PyData.keyHash w.params "_ready_nodes",.str "_ready_nodes" t2,rv⟩,
  ⟨PyData.keyHash w.params "_npassedout",.str "_npassedout" t3,.int out to⟩,⟨PyData.keyHash w.params "_nfinished",.str "_nfinished" t4,.int fin tf⟩]
noncomputable def rvOf (rd:List Addr):Value:=match rd with
 | []=>.none
 | r::_=>.ref r
noncomputable def RdyAt (h:Heap) (rd:List Addr) (ready:Option (List Int)):Prop:=(rd=[]/\ready=none)\/∃r xs,rd=[r]/\ready=some xs/\Ints h r xs
theorem rdy0:RdyAt h [] none:=.inl ⟨rfl,rfl⟩
theorem rdy1 {r:Addr}{xs:List Int}(x:Ints h r xs):RdyAt h [r] (some xs):=.inr ⟨r,xs,rfl,rfl,x⟩
noncomputable def cK (ns:List NdA) (nodes:List Nd):List (Int×Value):=List.zipWith (λ(a:NdA) (nd:Nd)=>(nd.id,Value.ref a.info)) ns nodes
structure Srt (g:Glob) (T:Topo) (h:Heap) (l:LayS) (σ:SS):Prop where
 inst:h.get? l.a=some (instObj T.C l.dx)
 dict:∃t1 t2 t3 t4 to tf n,h.get? l.dx=some (dictOf (iA g.w t1 t2 t3 t4 l.m (rvOf l.rd) σ.out σ.fin to tf) n)
 n2i:h.DictOf (intKind g.prog g.w) l.m (cK l.ns σ.nodes)
 sys:(l.m==sysModules)=false
 rdy:RdyAt h l.rd σ.ready
 len:l.ns.length=σ.nodes.length
 nds:∀(i:Nat) a nd,l.ns[i]?=some a->σ.nodes[i]?=some nd->NodeAt T h a nd
 nodup:l.all.Nodup
 ids:(σ.nodes.map (·.id)).Nodup
 big:σ.nodes.length<=1000
theorem Ints.keeps {xs:List Int}(x:Ints h a xs)(k:∀o,h.get? a=some o->h'.get? a=some o):Ints h' a xs:=by
 obtain⟨vs,n,h1,h2,h3⟩:=x
 obtain⟨ys,e1,e2⟩:=cG h3
 exact⟨vs,n,k _ h1,h2,by rw [e1,<- e2]; exact bH ys⟩
theorem NodeAt.keeps {T:Topo}{a:NdA}{nd:Nd}(x:NodeAt T h a nd)(k:∀b o,b∈a.all->h.get? b=some o->h'.get? b=some o):NodeAt T h' a nd:=by
 obtain⟨⟨t1,t2,h1⟩,h2,h3⟩:=x
 exact⟨⟨t1,t2,k _ _ (by simp [NdA.all]) h1⟩,k _ _ (by simp [NdA.all]) h2,h3.keeps λo=>k _ o (by simp [NdA.all])⟩
theorem pO {l:LayS}{i:Nat}{a:NdA}(h:l.ns[i]?=some a){b:Addr}(hb:b∈a.all):b∈l.all:=by
 have:b∈l.ns.flatMap NdA.all:=List.mem_flatMap.mpr ⟨a,List.mem_of_getElem? h,hb⟩
 simp [LayS.all,this]
theorem RdyAt.keeps {rd:List Addr}{ready:Option (List Int)}(x:RdyAt h rd ready)(k:∀b o,b∈rd->h.get? b=some o->h'.get? b=some o):RdyAt h' rd ready:=by
 rcases x with x | x
 ·exact .inl x
 ·obtain⟨r,xs,e,e',i⟩:=x
  exact .inr ⟨r,xs,e,e',i.keeps λo=>k r o (by rw [e]; exact List.mem_singleton.mpr rfl)⟩
section
variable {T:Topo} {l:LayS}
theorem Srt.keeps (S:Srt g T h l σ)(k:∀b o,b∈l.all->h.get? b=some o->h'.get? b=some o):Srt g T h' l σ:=by
 obtain⟨t1,t2,t3,t4,to,tf,n,hd⟩:=S.dict
 refine { S with inst:=k _ _ (by simp [LayS.all]) S.inst,dict:=⟨t1,t2,t3,t4,to,tf,n,k _ _ (by simp [LayS.all]) hd⟩,n2i:=?_,rdy:=S.rdy.keeps λb o hb=>k b o (by simp [LayS.all,hb]),nds:=λi a nd h1 h2=>(S.nds i a nd h1 h2).keeps λb o hb=>k b o (pO h1 hb) }
 obtain⟨o,es,ep,h1,h2⟩:=S.n2i
 exact⟨o,es,ep,k _ _ (by simp [LayS.all]) h1,h2⟩
theorem Srt.instAt (S:Srt g T h l σ):∃t1 t2 t3 t4 to tf n,InstAt h l.a (instObj T.C l.dx) T.C (some (dictOf (iA g.w t1 t2 t3 t4 l.m (rvOf l.rd) σ.out σ.fin to tf) n)):=by
 obtain⟨t1,t2,t3,t4,to,tf,n,hd⟩:=S.dict
 exact⟨t1,t2,t3,t4,to,tf,n,S.inst,rfl,rfl,hd⟩
theorem Srt.alloc (S:Srt g T h l σ):∀b∈l.all,∃o,h.get? b=some o:=by
 intro b hb
 simp only [LayS.all,List.mem_cons,List.mem_append] at hb
 rcases hb with rfl | rfl | rfl | hb | hb
 ·exact⟨_,S.inst⟩
 ·obtain⟨t1,t2,t3,t4,to,tf,n,hd⟩:=S.dict; exact⟨_,hd⟩
 ·obtain⟨o,_,_,e,_⟩:=S.n2i; exact⟨o,e⟩
 ·rcases S.rdy with hr | hr
  ·rw [hr.1] at hb; cases hb
  ·obtain⟨r,xs,e,_,vs,n,h1,_⟩:=hr
   rw [e] at hb
   obtain rfl:=List.mem_singleton.mp hb
   exact⟨_,h1⟩
 ·obtain⟨a,ha,hb⟩:=List.mem_flatMap.mp hb
  obtain⟨i,hi,rfl⟩:=List.mem_iff_getElem.mp ha
  have h1:l.ns[i]?=some l.ns[i]:=List.getElem?_eq_getElem hi
  obtain⟨nd,h2⟩:∃nd,σ.nodes[i]?=some nd:=⟨_,List.getElem?_eq_getElem (by rw [<- S.len]; exact hi)⟩
  obtain⟨⟨t1,t2,e1⟩,e2,vs,n,e3,_⟩:=S.nds i _ _ h1 h2
  simp only [NdA.all,List.mem_cons,List.not_mem_nil,or_false] at hb
  rcases hb with rfl | rfl | rfl
  ·exact⟨_,e1⟩
  ·exact⟨_,e2⟩
  ·exact⟨_,e3⟩
end
end
variable {l:LayS} {T:Topo}
set_option backward.match.sparseCases true
structure OffNd (l:LayS) (i:Nat) (b:Addr):Prop where
 a:b≠l.a
 dx:b≠l.dx
 m:b≠l.m
 rd:b∉l.rd
 ns:∀(j:Nat) a',l.ns[j]?=some a'->j≠i->b∉a'.all
theorem nodup_nd (h:l.all.Nodup){i:Nat}{a:NdA}(hi:l.ns[i]?=some a){b:Addr}(hb:b∈a.all):OffNd l i b:=by
 have hf:b∈l.ns.flatMap NdA.all:=List.mem_flatMap.mpr ⟨a,List.mem_of_getElem? hi,hb⟩
 unfold LayS.all at h
 simp only [List.nodup_cons,List.mem_cons,List.mem_append,not_or,List.nodup_append] at h
 obtain⟨⟨h1,h2,h3,h4⟩,⟨h5,h6,h7⟩,⟨h8,h9⟩,h10,h11,h12⟩:=h
 refine⟨λe=>?_,λe=>?_,λe=>?_,λe=>h12 b e b hf rfl,λj a' hj hne hb'=>?_⟩
 ·rw [e] at hf; exact h4 hf
 ·rw [e] at hf; exact h7 hf
 ·rw [e] at hf; exact h9 hf
 ·have hp:List.Pairwise (λ(a1 a2:NdA)=>∀x∈a1.all,∀y∈a2.all,x≠y) l.ns:=(List.pairwise_flatMap.mp h11).2
  rw [List.pairwise_iff_getElem] at hp
  obtain⟨hi',e1⟩:=List.getElem?_eq_some_iff.mp hi
  obtain⟨hj',e2⟩:=List.getElem?_eq_some_iff.mp hj
  rcases Nat.lt_or_gt_of_ne hne with hlt | hlt
  ·exact hp j i hj' hi' hlt b (by rw [e2]; exact hb') b (by rw [e1]; exact hb) rfl
  ·exact hp i j hi' hj' hlt b (by rw [e1]; exact hb) b (by rw [e2]; exact hb') rfl
theorem pM:∀(ns:List NdA) (nodes nodes':List Nd),nodes'.map (·.id)=nodes.map (·.id)->cK ns nodes'=cK ns nodes
 | [],_,_,_=>by simp [cK]
 | a::ns,[],[],_=>rfl
 | a::ns,[],_::_,h=>by simp at h
 | a::ns,_::_,[],h=>by simp at h
 | a::ns,x::xs,y::ys,h=>by
  simp only [List.map_cons,List.cons.injEq] at h
  have:=pM ns xs ys h.2
  unfold cK at this ⊢
  simp only [List.zipWith_cons_cons,h.1,this]
theorem upd_ids (σ:SS)(k:Int)(f:Nd->Nd)(hf:∀n,(f n).id=n.id):(σ.upd k f).nodes.map (·.id)=σ.nodes.map (·.id):=by
 unfold SS.upd
 rw [List.map_map]
 refine List.map_congr_left λn zw=>?_
 simp only [Function.comp]
 split
 ·exact hf n
 ·rfl
theorem y7 {nodes:List Nd}(h:(nodes.map (·.id)).Nodup){i j:Nat}{x y:Nd}(hi:nodes[i]?=some x)(hj:nodes[j]?=some y)(e:x.id=y.id):i=j:=by
 obtain⟨hi',e1⟩:=List.getElem?_eq_some_iff.mp hi
 obtain⟨hj',e2⟩:=List.getElem?_eq_some_iff.mp hj
 have h:=List.pairwise_iff_getElem.mp h
 rcases Nat.lt_trichotomy i j with hlt | rfl | hlt
 ·exact(h i j (by simpa using hi') (by simpa using hj') hlt (by simp [e1,e2,e])).elim
 ·rfl
 ·exact(h j i (by simpa using hj') (by simpa using hi') hlt (by simp [e1,e2,e])).elim
theorem upd_get (σ:SS)(hid:(σ.nodes.map (·.id)).Nodup){i:Nat}{nd:Nd}(hi:σ.nodes[i]?=some nd)(f:Nd->Nd)(j:Nat)(x:Nd)(hx:(σ.upd nd.id f).nodes[j]?=some x) :
  (j=i/\x=f nd)\/(j≠i/\σ.nodes[j]?=some x):=by
 unfold SS.upd at hx
 simp only [List.getElem?_map,Option.map_eq_some_iff] at hx
 obtain⟨y,hy,e⟩:=hx
 by_cases hj:j=i
 ·subst hj
  rw [hi] at hy; cases hy
  left
  refine⟨rfl,?_⟩
  rw [<- e]; simp
 ·right
  refine⟨hj,?_⟩
  have hne:y.id≠nd.id:=λz=>hj (y7 hid hy hi z)
  rw [if_neg (by simpa using hne)] at e
  rw [<- e]; exact hy
section
theorem Srt.node (S:Srt g T h l σ){i:Nat}{a:NdA}{nd:Nd}{f:Nd->Nd}(hf:∀n,(f n).id=n.id)(h1:l.ns[i]?=some a)(h2:σ.nodes[i]?=some nd)(hn:NodeAt T h' a (f nd))
  (k:∀b o,b∈l.all->b∉a.all->h.get? b=some o->h'.get? b=some o):Srt g T h' l (σ.upd nd.id f):=by
 have off:∀b,b∈a.all->OffNd l i b:=λb hb=>nodup_nd S.nodup h1 hb
 have ids:=upd_ids σ nd.id f hf
 obtain⟨t1,t2,t3,t4,to,tf,n,hd⟩:=S.dict
 have hl:(σ.upd nd.id f).nodes.length=σ.nodes.length:=by have:=congrArg List.length ids; simpa using this
 refine⟨k _ _ (by simp [LayS.all]) (λz=>(off _ z).a rfl) S.inst,⟨t1,t2,t3,t4,to,tf,n,k _ _ (by simp [LayS.all]) (λz=>(off _ z).dx rfl) hd⟩,?_,S.sys,S.rdy.keeps λb o hb=>k b o (by simp [LayS.all,hb]) (λz=>(off _ z).rd hb),by rw [hl]; exact S.len,λj a' x hj hx=>?_,S.nodup,by rw [ids]; exact S.ids,by rw [hl]; exact S.big⟩
 ·obtain⟨o,es,ep,e1,e2⟩:=S.n2i
  rw [pM _ _ _ ids]
  exact⟨o,es,ep,k _ _ (by simp [LayS.all]) (λz=>(off _ z).m rfl) e1,e2⟩
 ·rcases upd_get σ S.ids h2 f j x hx with ⟨rfl,rfl⟩ | ⟨hne,hx⟩
  ·rw [h1] at hj; cases hj; exact hn
  ·exact(S.nds j a' x hj hx).keeps λb o hb=>k b o (pO hj hb) λz=>(off b z).ns j a' hj hne hb
theorem Srt.fields (S:Srt g T h l σ){σ':SS}{rd':List Addr}{t1 t2 t3 t4 to tf:Tok}(hs:Heap.SameBut l.dx h h')(hd:h'.get? l.dx=some (dictOf (iA g.w t1 t2 t3 t4 l.m (rvOf rd') σ'.out σ'.fin to tf) n))
  (hn:σ'.nodes=σ.nodes) (hr:RdyAt h' rd' σ'.ready) (hnd:({ l with rd:=rd' }:LayS).all.Nodup):Srt g T h' { l with rd:=rd' } σ':=by
 have nd:=S.nodup
 have off:∀b,b∈l.all->b≠l.dx->∀o,h.get? b=some o->h'.get? b=some o:=λb zw hne o e=>(hs.2 b hne).trans e
 have hnd':=hnd
 unfold LayS.all at hnd'
 simp only [List.nodup_cons,List.mem_cons,List.mem_append,not_or,List.nodup_append] at hnd'
 obtain⟨⟨g1,g2,g3,g4⟩,⟨g5,g6,g7⟩,⟨g8,g9⟩,g10,g11,g12⟩:=hnd'
 refine⟨(hs.2 _ g1).trans S.inst,⟨t1,t2,t3,t4,to,tf,n,hd⟩,?_,S.sys,hr,by rw [hn]; exact S.len,λi a x h1 h2=>?_,hnd,by rw [hn]; exact S.ids,by rw [hn]; exact S.big⟩
 ·obtain⟨o,es,ep,e1,e2⟩:=S.n2i
  rw [hn]
  exact⟨o,es,ep,(hs.2 _ (λz=>g5 z.symm)).trans e1,e2⟩
 ·rw [hn] at h2
  refine(S.nds i a x h1 h2).keeps λb o hb e=>(hs.2 b λz=>?_).trans e
  exact g7 (z ▸ List.mem_flatMap.mpr ⟨a,List.mem_of_getElem? h1,hb⟩)
theorem Srt.readyL (S:Srt g T h l σ){r:Addr}{xs:List Int}(hr:l.rd=[r])(hs:Heap.SameBut r h h')(hx:Ints h' r xs):Srt g T h' l { σ with ready:=some xs }:=by
 have nd:=S.nodup
 unfold LayS.all at nd
 rw [hr] at nd
 simp only [List.nodup_cons,List.mem_cons,List.mem_append,not_or,List.nodup_append,List.not_mem_nil,or_false] at nd
 obtain⟨⟨g1,g2,g3,g4⟩,⟨g5,g6,g7⟩,⟨g8,g9⟩,g10,g11,g12⟩:=nd
 obtain⟨t1,t2,t3,t4,to,tf,n,hd⟩:=S.dict
 refine { S with inst:=(hs.2 _ g3).trans S.inst,dict:=⟨t1,t2,t3,t4,to,tf,n,(hs.2 _ g6).trans hd⟩,n2i:=?_,rdy:=by rw [hr]; exact rdy1 hx,nds:=λi a x h1 h2=>?_ }
 ·obtain⟨o,es,ep,e1,e2⟩:=S.n2i
  exact⟨o,es,ep,(hs.2 _ g8).trans e1,e2⟩
 ·refine(S.nds i a x h1 h2).keeps λb o hb e=>(hs.2 b λz=>?_).trans e
  exact g12 r rfl b (List.mem_flatMap.mpr ⟨a,List.mem_of_getElem? h1,hb⟩) z.symm
theorem Srt.insert (S:Srt g T h l σ){a:NdA}{nd:Nd}(hm:h'.DictOf (intKind g.prog g.w) l.m (cK (l.ns++[a]) (σ.nodes++[nd])))(k:∀b o,b∈l.all->b≠l.m->h.get? b=some o->h'.get? b=some o)(hn:NodeAt T h' a nd)
  (hnew:∀b∈a.all,b∉l.all) (hnd:a.all.Nodup) (hid:∀n∈σ.nodes,n.id≠nd.id) (hbig:σ.nodes.length < 1000):Srt g T h' { l with ns:=l.ns++[a] } { σ with nodes:=σ.nodes++[nd] }:=by
 have ndp:=S.nodup
 unfold LayS.all at ndp
 simp only [List.nodup_cons,List.mem_cons,List.mem_append,not_or,List.nodup_append] at ndp
 obtain⟨⟨g1,g2,g3,g4⟩,⟨g5,g6,g7⟩,⟨g8,g9⟩,g10,g11,g12⟩:=ndp
 obtain⟨t1,t2,t3,t4,to,tf,n,hd⟩:=S.dict
 have hlen:=S.len
 refine⟨k _ _ (by simp [LayS.all]) g2 S.inst,⟨t1,t2,t3,t4,to,tf,n,k _ _ (by simp [LayS.all]) g5 hd⟩,hm,S.sys,S.rdy.keeps λb o hb=>k b o (by simp [LayS.all,hb]) (λz=>g8 (z ▸ hb)),by simp [hlen],λi a' x h1 h2=>?_,?_,?_,by simp; grind⟩
 ·by_cases hi:i < l.ns.length
  ·have h1:l.ns[i]?=some a':=by rw [<- h1]; exact(List.getElem?_append_left hi).symm
   have h2:σ.nodes[i]?=some x:=by rw [<- h2]; exact(List.getElem?_append_left (by grind)).symm
   exact(S.nds i a' x h1 h2).keeps λb o hb=>k b o (pO h1 hb) λz=>g9 (z ▸ List.mem_flatMap.mpr ⟨a',List.mem_of_getElem? h1,hb⟩)
  ·have h1:(l.ns++[a])[i]?=some a':=h1
   have h2:(σ.nodes++[nd])[i]?=some x:=h2
   rw [List.getElem?_append_right (by grind)] at h1
   rw [List.getElem?_append_right (by grind)] at h2
   have e0:i - l.ns.length=0:=by
    rcases Nat.eq_zero_or_pos (i - l.ns.length) with e | e
    ·exact e
    ·rw [List.getElem?_eq_none (by simp; assumption)] at h1; cases h1
   rw [e0] at h1
   rw [show i - σ.nodes.length=0 by grind] at h2
   cases h1; cases h2
   exact hn
 ·show(l.a::l.dx::l.m::(l.rd++(l.ns++[a]).flatMap NdA.all)).Nodup
  have e:(l.a::l.dx::l.m::(l.rd++(l.ns++[a]).flatMap NdA.all))=l.all++a.all:=by simp [LayS.all]
  rw [e,List.nodup_append]
  exact⟨S.nodup,hnd,λx hx y hy z=>hnew y hy (z ▸ hx)⟩
 ·show((σ.nodes++[nd]).map (·.id)).Nodup
  rw [List.map_append,List.nodup_append]
  refine⟨S.ids,by simp,λx hx y hy z=>?_⟩
  obtain⟨n',hn',rfl⟩:=List.mem_map.mp hx
  have hy:y=nd.id:=by simpa using hy
  exact hid n' hn' (z.trans hy)
end
section
theorem aU (x:Rd O M h k v (objD a)):v=.ref a:=by
 generalize hd:objD a=d at x
 cases x <;> (unfold objD at hd; try (cases hd; done))
 simp only [PyData.dict.injEq,List.cons.injEq,Prod.mk.injEq,PyData.int.injEq,and_true] at hd
 have:=Int.ofNat.inj hd
 rw [this]
theorem Run.ev {W:Avoid}(r:Run c O M W V s)(x:EvS (c.g.now s r.act.up) c.n V e d k)
  (q:∀v s',Keeps s s'->Rd O M s'.heap k v d->Run c O M W V s'->Q v s'):wpAny c.g.M c.Ar (eval e c.env) Q E s :=
 wpAny_mono (x O M c.env c.Ar s E (Glob.now_up _) r.rm r.act.aO r.act.aM r.act.eo) (λv s' ⟨k,rd⟩=>q v s' k rd (r.keeps k)) λzw zw z=>z
theorem Run.e0 {W:Avoid}(r:Run c O M W V s)(x:EvS (c.g.now s r.act.up) c.n V e d 0)
  (q:∀v s',Keeps s s'->Rd O M s'.heap 0 v d->Run c O M W V s'->Q v s'):wpAny c.g.M c.Ar (eval e c.env) Q E s:=r.ev x q
theorem Run.test {W:Avoid}{b:Bool}{Q:Bool->Shared->Prop}(r:Run c O M W V s)(x:TestS (c.g.now s r.act.up) c.n V e b)
  (q:∀s',Keeps s s'->Run c O M W V s'->Q b s'):wpAny c.g.M c.Ar (isTrue e c.env (eval e c.env)) Q E s :=
 wpAny_mono (x O M c.env c.Ar s E (Glob.now_up _) r.rm r.act.aO r.act.aM r.act.eo) (λv s' ⟨k,rd⟩=>by subst rd; exact q s' k (r.keeps k)) λzw zw z=>z
section
variable {Q:Value->Shared->Prop} {b:Bool}
theorem nU (S:Srt g T s.heap l σ)(X:g.K.In s.heap)(TK:TopoOk g.K T)(q:Q (.ref l.m) { s with toks:=s.toks+1 }):wpAny g.M A (getAttr (.ref l.a) "_node2info" b) Q E s:=by
 obtain⟨t1,t2,t3,t4,to,tf,n,I⟩:=S.instAt
 exact kX X I (TK.c.get _) TK.dict TK.a1.find rfl rfl rfl q
theorem kW (S:Srt g T s.heap l σ)(X:g.K.In s.heap)(TK:TopoOk g.K T)(q:Q (rvOf l.rd) { s with toks:=s.toks+1 }):wpAny g.M A (getAttr (.ref l.a) "_ready_nodes" b) Q E s:=by
 obtain⟨t1,t2,t3,t4,to,tf,n,I⟩:=S.instAt
 exact kX X I (TK.c.get _) TK.dict TK.a2.find rfl rfl (by cases l.rd <;> rfl) q
theorem get_out (S:Srt g T s.heap l σ)(X:g.K.In s.heap)(TK:TopoOk g.K T)(q:∀t,Q (.int σ.out t) { s with toks:=s.toks+1 }):wpAny g.M A (getAttr (.ref l.a) "_npassedout" b) Q E s:=by
 obtain⟨t1,t2,t3,t4,to,tf,n,I⟩:=S.instAt
 exact kX X I (TK.c.get _) TK.dict TK.a3.find rfl rfl rfl (q _)
theorem gU (S:Srt g T s.heap l σ)(X:g.K.In s.heap)(TK:TopoOk g.K T){name:Str}{f:Addr}{pl:Sem Bool}{Q:Value×List Value->Shared->Prop}(m:MethK g.K T.C name f)(hn:("_node2info":Str)≠name/\("_ready_nodes":Str)≠name/\("_npassedout":Str)≠name/\("_nfinished":Str)≠name)
  (q:Q (.ref f,[.ref l.a]) s):wpAny g.M A (getMethod (.ref l.a) name pl) Q E s:=by
 obtain⟨t1,t2,t3,t4,to,tf,n,I⟩:=S.instAt
 refine yB X I (TK.c.get _) m.find m.fn ?_ q
 unfold getL iA
 simp [Value.isStr,hn.1,hn.2.1,hn.2.2.1,hn.2.2.2,DictEntry.refKey]
end
section
variable {a:NdA} {nd:Nd} {Q:Value->Shared->Prop} {b:Bool}
theorem NodeAt.instAt (S:NodeAt T h a nd):∃t1 t2,InstAt h a.info { cls:=.ref T.N,dict:=some a.dct,data:=.plain,slots:=#[some (.int nd.id t1),some (.int nd.np t2),some (.ref a.suc)] } T.N (some emptyDict):=by
 obtain⟨⟨t1,t2,h1⟩,h2,h3⟩:=S
 exact⟨t1,t2,h1,rfl,rfl,h2⟩
theorem get_node (S:NodeAt T s.heap a nd)(X:g.K.In s.heap)(TK:TopoOk g.K T)(q:∀t,Q (.int nd.id t) { s with toks:=s.toks+1 }):wpAny g.M A (getAttr (.ref a.info) "node" b) Q E s:=by
 obtain⟨t1,t2,I⟩:=S.instAt
 exact jA X I (TK.n.get _) TK.n.cls TK.s0.find TK.s0.get TK.s0.takes TK.s0.slot rfl rfl (q _)
theorem get_np (S:NodeAt T s.heap a nd)(X:g.K.In s.heap)(TK:TopoOk g.K T)(q:∀t,Q (.int nd.np t) { s with toks:=s.toks+1 }):wpAny g.M A (getAttr (.ref a.info) "npredecessors" b) Q E s:=by
 obtain⟨t1,t2,I⟩:=S.instAt
 exact jA X I (TK.n.get _) TK.n.cls TK.s1.find TK.s1.get TK.s1.takes TK.s1.slot rfl rfl (q _)
theorem zA (S:NodeAt T s.heap a nd)(X:g.K.In s.heap)(TK:TopoOk g.K T)(q:Q (.ref a.suc) { s with toks:=s.toks+1 }):wpAny g.M A (getAttr (.ref a.info) "successors" b) Q E s:=by
 obtain⟨t1,t2,I⟩:=S.instAt
 exact jA X I (TK.n.get _) TK.n.cls TK.s2.find TK.s2.get TK.s2.takes TK.s2.slot rfl rfl q
end
section
variable {Q:Unit->Shared->Prop}
theorem aY {x:Addr}(hs:Heap.SameBut x h h'){W:Avoid}(hx:W x){tk:Nat}(e:s.heap=h):Cx W No s { s with heap:=h',toks:=tk } :=
 .of_chg ⟨⟨h',tk,rfl⟩,λb o hb eb=>(hs.2 b λz=>hb (z ▸ hx)).trans (e ▸ eb)⟩
theorem set_np1 (S:Srt g T s.heap l σ)(X:g.K.In s.heap)(TK:TopoOk g.K T){i:Nat}{a:NdA}{nd:Nd}(h1:l.ns[i]?=some a)(h2:σ.nodes[i]?=some nd){z:Int}{t:Tok}
  (q:∀s',Cx (λb=>b=a.info) No s s'->Srt g T s'.heap l (σ.upd nd.id λn=>{ n with np:=z })->Q () s'):wpAny g.M A (setAttr (.ref a.info) "npredecessors" (.int z t)) Q E s:=by
 have N:=S.nds i a nd h1 h2
 obtain⟨t1,t2,I⟩:=N.instAt
 refine f9 X I TK.n.set TK.n.over TK.s1.taker TK.s1.type TK.s1.slot (by decide) rfl rfl λh' hs ho=>q _ (aY (W:=λb=>b=a.info) hs rfl rfl) ?_
 have off:∀b,b∈a.all->b≠a.info->∀o,s.heap.get? b=some o->h'.get? b=some o:=λb zw hb o e=>(hs.2 b hb).trans e
 have nd':a.all.Nodup:=by
  have:=S.nodup
  have:=(List.pairwise_flatMap.mp (List.nodup_append.mp (List.nodup_cons.mp (List.nodup_cons.mp (List.nodup_cons.mp this).2).2).2).2.1).1 a (List.mem_of_getElem? h1)
  exact this
 simp only [NdA.all,List.nodup_cons,List.mem_cons,List.not_mem_nil,or_false,not_or] at nd'
 refine S.node (f:=λn=>{ n with np:=z }) (λzw=>rfl) h1 h2 ⟨⟨t1,t,ho⟩,off _ (by simp [NdA.all]) (λz=>nd'.1.1 z.symm) _ N.2.1,N.2.2.keeps λo=>off _ (by simp [NdA.all]) (λz=>nd'.1.2 z.symm) o⟩ λb o hb hn e=>(hs.2 b λz=>hn (by rw [z]; simp [NdA.all])).trans e
theorem set_np (S:Srt g T s.heap l σ)(X:g.K.In s.heap)(TK:TopoOk g.K T){i:Nat}{a:NdA}{nd:Nd}(h1:l.ns[i]?=some a)(h2:σ.nodes[i]?=some nd){z:Int}{t:Tok}
  (q:∀s',Cx l.W No s s'->Srt g T s'.heap l (σ.upd nd.id λn=>{ n with np:=z })->Q () s'):wpAny g.M A (setAttr (.ref a.info) "npredecessors" (.int z t)) Q E s :=
 set_np1 S X TK h1 h2 λs' c=>q s' (c.mono (λb hb=>by rw [hb]; exact pO h1 (by simp [NdA.all])) λzw h=>h)
theorem set_rdy (S:Srt g T s.heap l σ)(X:g.K.In s.heap)(TK:TopoOk g.K T)(hr:l.rd=[]){r:Addr}{xs:List Int}(hx:Ints s.heap r xs)(hn:r∉l.all)
  (q:∀s',Cx l.W No s s'->Srt g T s'.heap { l with rd:=[r] } { σ with ready:=some xs }->Q () s'):wpAny g.M A (setAttr (.ref l.a) "_ready_nodes" (.ref r)) Q E s:=by
 obtain⟨t1,t2,t3,t4,to,tf,n,I⟩:=S.instAt
 refine dN (es':=iA g.w t1 t2 t3 t4 l.m (.ref r) σ.out σ.fin to tf) X I rfl TK.c.set TK.c.over TK.a2.taker TK.dict rfl rfl (show 4<=1000 by decide) λh' hs ho=>q _ (aY (W:=l.W) hs (show l.dx∈l.all by simp [LayS.all]) rfl) ?_
 refine S.fields (σ':={ σ with ready:=some xs }) (rd':=[r]) hs ho rfl (rdy1 (hx.keeps λo e=>(hs.2 r λz=>hn (by rw [z]; simp [LayS.all])).trans e)) ?_
 have nd:=S.nodup
 show(l.a::l.dx::l.m::([r]++l.ns.flatMap NdA.all)).Nodup
 unfold LayS.all at nd hn
 rw [hr] at nd hn
 simp only [List.nodup_cons,List.nil_append,List.mem_cons,List.cons_append,not_or] at nd hn ⊢
 exact⟨⟨nd.1.1,nd.1.2.1,λz=>hn.1 z.symm,nd.1.2.2⟩,⟨nd.2.1.1,λz=>hn.2.1 z.symm,nd.2.1.2⟩,⟨λz=>hn.2.2.1 z.symm,nd.2.2.1⟩,hn.2.2.2,nd.2.2.2⟩
theorem set_out (S:Srt g T s.heap l σ)(X:g.K.In s.heap)(TK:TopoOk g.K T){z:Int}{t:Tok}
  (q:∀s',Cx l.W No s s'->Srt g T s'.heap l { σ with out:=z }->Q () s'):wpAny g.M A (setAttr (.ref l.a) "_npassedout" (.int z t)) Q E s:=by
 obtain⟨t1,t2,t3,t4,to,tf,n,I⟩:=S.instAt
 refine dN (es':=iA g.w t1 t2 t3 t4 l.m (rvOf l.rd) z σ.fin t tf) X I rfl TK.c.set TK.c.over TK.a3.taker TK.dict rfl rfl (show 4<=1000 by decide) λh' hs ho=>q _ (aY (W:=l.W) hs (show l.dx∈l.all by first | grind [LayS.all] | simp [LayS.all]) rfl) ?_
 exact S.fields (σ':={ σ with out:=z }) (rd':=l.rd) hs ho rfl (S.rdy.keeps λb o hb e=>(hs.2 b λzz=>by
  have nd:=S.nodup
  unfold LayS.all at nd
  simp only [List.nodup_cons,List.mem_cons,List.mem_append,not_or] at nd
  exact nd.2.1.2.1 (zz ▸ hb)).trans e) S.nodup
end
end
noncomputable def mR (K:Frag) (cd:Value) (q:Str):Bool:=match cd with
 | .ref c=>match K.lookup c with
  | some ⟨_,_,.fields vs,_⟩=>match (vs[1]?:Option Value) with
   | some (.str q' _)=>q'==q
   | _=>false
  | _=>false
 | _=>false
set_option tactic.hygienic true in
theorem bL {K:Frag}{cd:Value}{q:Str}(X:K.In h)(e:mR K cd q=true):h.CodeRec cd q:=by
 cases cd <;> try exact nb e
 rename_i c
 cases hk:K.lookup c with
 | none=>exact nb ((congrArg (λz=>(match z with
   | some ⟨_,_,.fields vs,_⟩=>(match (vs[1]?:Option Value) with
    | some (.str q' _)=>q'==q
    | _=>false)
   | _=>false:Bool)) hk).symm.trans e)
 | some o =>
  have e:=(congrArg (λz=>(match z with
   | some ⟨_,_,.fields vs,_⟩=>(match (vs[1]?:Option Value) with
    | some (.str q' _)=>q'==q
    | _=>false)
   | _=>false:Bool)) hk).symm.trans e
  obtain⟨cls,dd,data,sl⟩:=o
  cases data <;> try exact nb e
  rename_i vs
  cases hq:(vs[1]?:Option Value) with
  | none=>exact nb ((congrArg (λz=>(match z with
    | some (.str q' _)=>q'==q
    | _=>false:Bool)) hq).symm.trans e)
  | some v =>
   have e:=(congrArg (λz=>(match z with
    | some (.str q' _)=>q'==q
    | _=>false:Bool)) hq).symm.trans e
   cases v <;> try exact nb e
   have:=beq_iff_eq.mp e
   subst this
   exact⟨_,_,_,_,rfl,X _ _ hk,rfl,hq⟩
structure FnK (K:Frag) (f:Addr) (body:List Stmt) (names:List (Str×NameKind)) (params:List Str) (code:Value):Prop where
 ex:∃c dd fd sl,K.lookup f=some ⟨c,dd,.func fd,sl⟩/\FnData fd body/\fd.closure=[]/\mR K fd.code fd.qualname=true/\fd.scope.names=names/\fd.code=code/\(∀vs:List Value,vs.length=params.length->bindArgs fd ⟨vs,[]⟩=pure (params.zip vs))
 nm:c9 names []=true
noncomputable abbrev retOf (f:Flow):Value:=match f with | .ret v=>v | _=>.none
noncomputable abbrev tO (g:Glob) (A:Around) (env:Env) (R:Result->Shared->Prop) (e:Value) (s':Shared):Prop:=wpAny g.M (A.deeper env) (leaving env e) (λzw s''=>R (.error e) s'') (λe' s''=>R (.error e') s'') s'
theorem j0:Clos O M h [] []:=⟨λx d h=>(by cases h),λx c h=>(by cases h),λx y c h=>(by cases h)⟩
theorem eY {W:Avoid}{f:Addr}{body:List Stmt}{names:List (Str×NameKind)}{params:List Str}{code:Value}{vs:List Value}
  (at_:At g (n+1) A O M W F s) (fk:FnK g.K f body names params code) (rs:Rds O M s.heap 0 vs ds) (hl:ds.length=params.length) (hps:params.all (stOk ⟨names,[]⟩)=true) (hρ:bN ⟨names,[]⟩ params ds=some V)
  (hbody:∀(env:Env) (P O':Avoid) (s2:Shared),Run ⟨g,n,A,env,P,O,M,W,F,s,No,O',s2⟩ O' No W V s2->env.code=code->(∀b o,s.heap.get? b=some o->s2.heap.get? b=some o) →
   wpAny g.M (A.deeper env) (execs body env) (λf s'=>R (.ok (.ret (retOf f))) s') (tO g A env R) s2) :
  codeAny g.M A (.call (.ref f) ⟨vs,[]⟩) R s:=by
 obtain⟨⟨c,dd,fd,sl,hK,FD,hcl,hcd,hnm,hco,hb⟩,nm⟩:=fk
 subst hnm
 subst hco
 refine rK (clv:=[]) at_ (at_.up _ _ (g.X _ _ hK)) rfl FD ((bL g.X hcd).keeps at_.up) (by rw [hb vs (by rw [rs.length,hl])]; exact wpAny_pure ⟨vs,rfl,aD s,rs⟩) (by rw [hcl]; exact j0) (λx b h=>by rw [hcl] at h; cases h) nm hps hρ hbody
structure Eff (W F:Avoid) (s:Shared) (W':Avoid) (s':Shared):Prop where
 cx:Cx W F s s'
 up:∀b,W b->W' b
 new:∀b,W' b->W b\/s.heap.get? b=none
 al:Alloc W' s'
theorem Run.effE {W W':Avoid}(r:Run c O M W V s)(e:Eff W c.Fc s W' s'):Run c (λb=>O b\/W' b) M W' V s':=r.eff e.cx e.up e.new e.al
theorem Run.eff_out {W:Avoid}(r:Run c O M W V s)(h:∀b,c.W b->W b):Eff c.W c.F c.s W s:=⟨r.cx,h,λb hb=>r.ww b hb,λb hb=>r.act.aO b (r.wo b hb)⟩
theorem Run.rd_out {W:Avoid}(r:Run c O M W V s)(x:Rd O M s.heap k v d):Rd (λb=>c.O b\/W b) c.M s.heap 0 v d :=
 (x.free 0).imp (λb zw h z=>h (by
  rcases z with z | z
  ·exact r.oo b (.inl z)
  ·exact r.wo b z)) (λb zw h zw z=>h (r.oo b (.inr (.inl z)))) (Nat.le_refl _)
theorem At.sub {W W':Avoid}(a:At g n A O M W F s)(h:∀b,W' b->W b):At g n A O M W' F s :=
 { a with wo:=λb hb=>a.wo b (h b hb),wf:=λb hb=>a.wf b (h b hb),wg:=λb hb=>a.wg b (h b hb) }
theorem Room.le {m:Nat}(r:Room n A)(h:m<=n):Room m A:=⟨r.handled,by have:=r.depth; grind,by have:=r.units; grind⟩
theorem At.le {m:Nat}{W:Avoid}(a:At g n A O M W F s)(h:m<=n):At g m A O M W F s:={ a with rm:=a.rm.le h }
theorem At.push {W N:Avoid}(a:At g n A O M W F s)(k:Keeps s s')(hN:∀b,N b->s.heap.get? b=none)(aN:Alloc N s'):At g n A (λb=>O b\/N b) M N F s' :=
 { a.keeps k with
  aO:=λb h=>by
   rcases h with h | h
   ·exact(a.keeps k).aO b h
   ·exact aN b h
  wo:=λb h=>.inr h
  fo:=λb h=>.inl (a.fo b h)
  wf:=λb h z=>by obtain⟨o,e⟩:=a.aF b z; rw [hN b h] at e; cases e
  wg:=λb h o e=>by have:=a.up b o e; rw [hN b h] at this; cases this }
theorem At.make {W:Avoid}{C:Addr}{rest:List Value}(a:At g (n+1) A O M W F s):At g n (A.under (.builtin "type.__call__" ⟨.ref C::rest,[]⟩)) O M W F s :=
 { a with
  rm:=⟨a.rm.handled,by have:=a.rm.depth; show A.depth+1+2*n+2 < recursionLimit; grind,by have:=a.rm.units; rw [units_under_make]; grind⟩
  frm:=⟨a.frm.fs,a.frm.gl⟩ }
set_option backward.match.sparseCases false
noncomputable def isDef (x:Str) (s:Stmt):Option (Arguments×List Stmt×Scope×Pos):=if h:s.ctorIdx=0 then Stmt.FunctionDef.elim (motive_2:=λzw=>Option (Arguments×List Stmt×Scope×Pos)) s h λn a b zw zw zw c zw zw p=>if n==x then some (a,b,c,p) else none else none
noncomputable def isCls (x:Str) (s:Stmt):Option (List Stmt):=if h:s.ctorIdx=2 then Stmt.ClassDef.elim (motive_2:=λzw=>Option (List Stmt)) s h λn zw zw b zw zw zw zw zw zw zw=>if n==x then some b else none else none
noncomputable def rI (ss:List Stmt) (x:Str):Arguments×List Stmt×Scope×Pos:=(ss.findSome? (isDef x)).getD (⟨[],[],none,[],[],none,[]⟩,[],default,default)
noncomputable def zD (ss:List Stmt) (x:Str):List Stmt×List (Str×NameKind)×List Str:=((rI ss x).2.1,(rI ss x).2.2.1.names,(rI ss x).1.args.map (·.arg))
noncomputable def fnOf (x:Str):=zD PySem.Challenge.pw_ny0325_03.main.body x
noncomputable def zE (ss:List Stmt) (x:Str):List Stmt:=(ss.findSome? (isCls x)).getD []
noncomputable def mOf (c x:Str):=zD (zE PySem.Challenge.pw_ny0325_03.main.body c) x
set_option backward.match.sparseCases true
noncomputable abbrev FnM (K:Frag) (f:Addr) (c x:Str) (params:List Str) (code:Value):Prop:=FnK K f (mOf c x).1 (mOf c x).2.1 params code
theorem No.le:∀b,No b->F b:=λzw h=>h.elim
theorem Run.now {W:Avoid}(r:Run c O M W V s):c.g.K.In s.heap:=c.g.X.keeps r.act.up
theorem Run.name {W:Avoid}(r:Run c O M W V s)(h:V.vars.lookup x=some (d,k))(hd:(x==("__debug__":Str))=false)
  (q:∀v,Rd O M s.heap k v d->Q v s):wpAny c.g.M c.Ar (eval (.Name x p) c.env) Q E s:=by
 obtain⟨v,hv,hr,_⟩:=r.act.eo.vars x d k h
 exact wpAny_Name (i4 r.act.eo.kind hv (q v hr)) hd
theorem Run.newL {W:Avoid}(r:Run c O No W V s)(x:EvS c.g c.n ⟨V.sc,[]⟩ e (.list ds) 0)
  (q:∀l s',Keeps s s'->s.heap.get? l=none->Rd O No s'.heap 0 (.ref l) (.list ds)->Run c O No W V s'->Q (.ref l) s'):wpAny c.g.M c.Ar (eval e c.env) Q E s :=
 wpAny_mono (evf_of x O c.env c.Ar s E r.act.up r.rm r.act.aO r.act.eo) (λv s' ⟨k,l,hv,hl,rd⟩=>by subst hv; exact q l s' k hl rd (r.keeps k)) λzw zw z=>z
theorem uT {x dx:Addr}{i:Int}{t:Tok}{code:Value}(at_:At g (n+1) A O M (λb=>b=x\/b=dx) F s)(TK:TopoOk g.K T)(fk:FnM g.K T.ninit "_NodeInfo" "__init__" ["self","node"] code)
  (hx:s.heap.get? x=some (instObj T.N dx)) (hd:s.heap.get? dx=some emptyDict) (hne:x≠dx)
  (q:∀s' suc,Cx (λb=>b=x\/b=dx) F s s'->NodeAt T s'.heap ⟨x,dx,suc⟩ ⟨i,0,[]⟩->s.heap.get? suc=none->R (.ok (.ret .none)) s'):codeAny g.M A (.call (.ref T.ninit) ⟨[.ref x,.int i t],[]⟩) R s:=by
 refine eY (ds:=[objD x,.int i]) at_ fk (.cons .obj (.cons .int .nil)) rfl rfl rfl λenv P O' s_2 r hc hk=>?_
 revert r
 (show let c:Fx:=_; Run c _ _ _ _ _->_)
 intro c r
 ((show let Q0:=_; wpAny _ _ _ Q0 _ _); intro Q0)
 conv in (mOf _ _).1=>whnf
 have hx2:=hk _ _ hx
 have hd2:=hk _ _ hd
 have al:∀(s':Shared),(∃o,s'.heap.get? x=some o)->(∃o,s'.heap.get? dx=some o)->Alloc (λb=>b=x\/b=dx) s':=λs' h1 h2 b hb=>by
  rcases hb with rfl | rfl
  ·exact h1
  ·exact h2
 refine wpAny_execs_cons (plainObj_wpAny_Assign_Attribute (r.name rfl (by decide) λv rv=>r.name rfl (by decide) λv' rv'=>?_) (aJ rfl _ _ _))
 obtain⟨u,rfl⟩:=aH rv
 have:=aU rv'; subst this
 refine f9 (odo:=some emptyDict) (ox':={ cls:=.ref T.N,dict:=some dx,data:=.plain,slots:=#[some (.int i u)] }) r.now ⟨hx2,rfl,rfl,hd2⟩ TK.n.set TK.n.over TK.s0.taker TK.s0.type TK.s0.slot (by decide) rfl rfl λh' hs ho=>?_
 ((show let Q0:=_; wpAny _ _ _ Q0 _ _); intro Q0)
 have hd3:=(hs.2 dx hne.symm).trans hd2
 have r:=r.eff (s':={ s_2 with heap:=h',toks:=s_2.toks+1 }) ((aY hs (.inl rfl) rfl).mono (λzw h=>h) No.le) (λzw h=>h) (λzw h=>.inl h) (al _ ⟨_,ho⟩ ⟨_,hd3⟩)
 refine wpAny_execs_cons (plainObj_wpAny_Assign_Attribute (r.e0 eK λv s3 k3 rv r=>r.name rfl (by decide) λv' rv'=>?_) (aJ rfl _ _ _))
 obtain⟨u',rfl⟩:=aH rv
 have:=aU rv'; subst this
 refine f9 (odo:=some emptyDict) (ox':={ cls:=.ref T.N,dict:=some dx,data:=.plain,slots:=#[some (.int i u),some (.int 0 u')] }) r.now ⟨aA k3 _ _ ho,rfl,rfl,aA k3 _ _ hd3⟩ TK.n.set TK.n.over TK.s1.taker TK.s1.type TK.s1.slot (by decide) rfl rfl λh_4 hs4 ho4=>?_
 ((show let Q0:=_; wpAny _ _ _ Q0 _ _); intro Q0)
 have hd4:=(hs4.2 dx hne.symm).trans (aA k3 _ _ hd3)
 have r:=r.eff (s':={ s3 with heap:=h_4,toks:=s3.toks+1 }) ((aY hs4 (.inl rfl) rfl).mono (λzw h=>h) No.le) (λzw h=>h) (λzw h=>.inl h) (al _ ⟨_,ho4⟩ ⟨_,hd4⟩)
 have nn:=λl=>r.none0 (b:=l)
 refine wpAny_execs_cons (plainObj_wpAny_Assign_Attribute (r.newL (jB dX (by decide)) λl s5 k5 hl rl r=>r.name rfl (by decide) λv' rv'=>?_) (aJ rfl _ _ _))
 have:=aU rv'; subst this
 refine f9 (odo:=some emptyDict) (ox':={ cls:=.ref T.N,dict:=some dx,data:=.plain,slots:=#[some (.int i u),some (.int 0 u'),some (.ref l)] }) r.now ⟨aA k5 _ _ ho4,rfl,rfl,aA k5 _ _ hd4⟩ TK.n.set TK.n.over TK.s2.taker TK.s2.type TK.s2.slot (by decide) rfl rfl λh6 hs6 ho6=>?_
 ((show let Q0:=_; wpAny _ _ _ Q0 _ _); intro Q0)
 have hd6:=(hs6.2 dx hne.symm).trans (aA k5 _ _ hd4)
 have hl0:s.heap.get? l=none:=nn l hl
 have hlx:l≠x:=λz=>by rw [z,hx] at hl0; cases hl0
 have r:=r.eff (s':={ s5 with heap:=h6,toks:=s5.toks+1 }) ((aY hs6 (.inl rfl) rfl).mono (λzw h=>h) No.le) (λzw h=>h) (λzw h=>.inl h) (al _ ⟨_,ho6⟩ ⟨_,hd6⟩)
 refine wpAny_execs_nil (q _ l r.cx ⟨⟨u,u',ho6⟩,hd6,?_⟩ hl0)
 obtain⟨l',vs,m,e,h1,h2,h3,h4,h5⟩:=bC rl
 cases e
 exact⟨vs,m,(hs6.2 _ hlx).trans h2,h1,by cases vs with | mk vs=>cases h3; exact .nil⟩
theorem uR {W:Avoid}{i:Int}{t:Tok}{code:Value}(at_:At g (n+2) A O M W F s)(TK:TopoOk g.K T)(fk:FnM g.K T.ninit "_NodeInfo" "__init__" ["self","node"] code)
  (q:∀s' (a:NdA),Cx No F s s'->NodeAt T s'.heap a ⟨i,0,[]⟩->(∀b∈a.all,s.heap.get? b=none)->a.all.Nodup->R (.ok (.ret (.ref a.info))) s'):codeAny g.M A (.call (.ref T.N) ⟨[.int i t],[]⟩) R s:=by
 have X:=g.X.keeps at_.up
 refine yH X TK.n.makes TK.mninit TK.tninit ?_
 have hsz:(s.heap.push emptyDict).objs.size=s.heap.objs.size+1:=Heap.size_push ..
 have k:Keeps s { s with heap:=(s.heap.push emptyDict).push (instObj T.N s.heap.objs.size) }:=⟨_,s.toks,rfl,λb o e=>Heap.get?_push_of_some _ (Heap.get?_push_of_some _ e)⟩
 have hx:((s.heap.push emptyDict).push (instObj T.N s.heap.objs.size)).get? (s.heap.objs.size+1)=some (instObj T.N s.heap.objs.size):=by rw [<- hsz]; exact Heap.get?_push_size _ rfl
 have hd:((s.heap.push emptyDict).push (instObj T.N s.heap.objs.size)).get? s.heap.objs.size=some emptyDict:=Heap.get?_push_of_some _ (Heap.get?_push_size _ rfl)
 have new:∀b,(b=s.heap.objs.size+1\/b=s.heap.objs.size)->s.heap.get? b=none:=λb hb=>cJ (aD s) (by
  rcases hb with rfl | rfl
  ·exact Nat.le_succ _
  ·exact Nat.le_refl _)
 have a':=(at_.push k (N:=λb=>b=s.heap.objs.size+1\/b=s.heap.objs.size) new λb hb=>by
  rcases hb with rfl | rfl
  ·exact⟨_,hx⟩
  ·exact⟨_,hd⟩).make (C:=T.N) (rest:=[.int i t])
 refine uT a' TK fk hx hd (Nat.succ_ne_self _) λs' suc cx N hs=>⟨rfl,?_⟩
 have hs0:s.heap.get? suc=none:=by
  cases e:s.heap.get? suc with
  | none=>rfl
  | some o=>have:=aA k _ _ e; rw [hs] at this; cases this
 refine q s' ⟨s.heap.objs.size+1,s.heap.objs.size,suc⟩ ?_ N (λb hb=>?_) ?_
 ·exact((Cx.of_keeps (W:=No) (F:=F) k).step cx (λb hb=>.inr (new b hb)) λzw h=>.inl h)
 ·simp only [NdA.all,List.mem_cons,List.not_mem_nil,or_false] at hb
  rcases hb with rfl | rfl | rfl
  ·exact new _ (.inl rfl)
  ·exact new _ (.inr rfl)
  ·exact hs0
 ·have h1:suc≠s.heap.objs.size+1:=λz=>by rw [z,hx] at hs; cases hs
  have h2:suc≠s.heap.objs.size:=λz=>by rw [z,hd] at hs; cases hs
  simp only [NdA.all,List.nodup_cons,List.mem_cons,List.not_mem_nil,or_false,not_or,not_false_eq_true,List.nodup_nil,and_true]
  exact⟨⟨Nat.succ_ne_self _,λz=>h1 z.symm⟩,λz=>h2 z.symm⟩
theorem Run.assign {W:Avoid}{Q:Unit->Shared->Prop}(r:Run c O M W V s)(hx:stOk V x=true)(rv:Rd O M s.heap 0 v d)
  (q:∀s',Chg (PM c.P M) s s'->Run c O M W (V.put x d 0) s'->Q () s'):wpAny c.g.M c.Ar (assign (.Name x p) c.env v) Q E s :=
 gH (xs:=[x]) r.rm.handled r.pl r.act rfl (by simpa using hx) rv rfl λs' h1 h2=>q s' h1.pm (r.chg h1.pm h2)
theorem Run.store {W:Avoid}{Q:Unit->Shared->Prop}(r:Run c O M W V s)(hx:stOk V x=true)(rv:Rd O M s.heap 0 v d)
  (q:∀s',Chg (PM c.P M) s s'->Run c O M W (V.put x d 0) s'->Q () s'):wpAny c.g.M c.Ar (storeName c.env x v) Q E s :=
 cS r.pl r.act hx rv λs' h1 h2 zw=>q s' h1.pm (r.chg h1.pm h2)
theorem Run.assignS {W:Avoid}{Q:Flow->Shared->Prop}(r:Run c O M W V s)(hp:fO e=true)
  (h:wpAny c.g.M c.Ar (eval e c.env) (λv s_1=>wpAny c.g.M c.Ar (storeName c.env x v) (λzw s2=>Q .next s2) E s_1) E s):wpAny c.g.M c.Ar (exec (.Assign [.Name x np] e p) c.env) Q E s :=
 wpAny_Assign_Name h (aJ hp _ _ _)
theorem Run.toks {W:Avoid}(r:Run c O M W V s)(t:Nat):Run c O M W V { s with toks:=t }:=r.keeps (aG s t)
theorem rR {ns:List NdA}{nodes:List Nd}(h:ns.length=nodes.length)(hid:(nodes.map (·.id)).Nodup){i:Nat}{a:NdA}{nd:Nd}(h1:ns[i]?=some a)(h2:nodes[i]?=some nd):valueAt (cK ns nodes) nd.id=some (.ref a.info):=by
 induction ns generalizing nodes i with
 | nil=>simp at h1
 | cons x xs ih =>
  cases nodes with
  | nil=>simp at h
  | cons y ys =>
   unfold valueAt cK
   simp only [List.zipWith_cons_cons,List.find?_cons]
   simp only [List.map_cons,List.nodup_cons] at hid
   cases i with
   | zero =>
    simp only [List.getElem?_cons_zero,Option.some.injEq] at h1 h2
    subst h1; subst h2
    simp
   | succ i =>
    simp only [List.getElem?_cons_succ] at h1 h2
    have hne:y.id≠nd.id:=λz=>hid.1 (by rw [z]; exact List.mem_map.mpr ⟨nd,List.mem_of_getElem? h2,rfl⟩)
    rw [decide_eq_false hne]
    exact ih (by simpa using h) hid.2 h1 h2
theorem yC {ns:List NdA}{nodes:List Nd}{p:Int×Value}(h:p∈cK ns nodes):∃n∈nodes,p.1=n.id:=by
 induction ns generalizing nodes with
 | nil=>simp [cK] at h
 | cons x xs ih =>
  cases nodes with
  | nil=>simp [cK] at h
  | cons y ys =>
   unfold cK at h
   simp only [List.zipWith_cons_cons,List.mem_cons] at h
   rcases h with rfl | h
   ·exact⟨y,by simp,rfl⟩
   ·obtain⟨n,hn,e⟩:=ih h; exact⟨n,by simp [hn],e⟩
theorem zip_none {ns:List NdA}{nodes:List Nd}{k:Int}(h:∀n∈nodes,n.id≠k):valueAt (cK ns nodes) k=none:=by
 unfold valueAt
 rw [List.find?_eq_none.mpr]
 ·rfl
 ·intro p hp
  obtain⟨q,hq,e⟩:=yC hp
  have:=h q hq
  rw [e]
  simpa using this
theorem tP {ns:List NdA}{nodes:List Nd}{k:Int}{a:NdA}{nd:Nd}(hl:ns.length=nodes.length)(h:∀n∈nodes,n.id≠k)(hk:nd.id=k):stored (cK ns nodes) k (.ref a.info)=cK (ns++[a]) (nodes++[nd]):=by
 unfold stored
 have:((cK ns nodes).any λkv=>decide (kv.1=k))=false:=by
  rw [List.any_eq_false]
  intro p hp
  obtain⟨q,hq,e⟩:=yC hp
  have:=h q hq
  rw [e]
  simpa using this
 rw [this,if_neg (by decide)]
 unfold cK
 rw [List.zipWith_append hl]
 simp [hk]
theorem has_iff {k:Int}:σ.has k=true↔∃(i:Nat) (nd:Nd),σ.nodes[i]?=some nd/\nd.id=k:=by
 unfold SS.has
 rw [List.any_eq_true]
 constructor
 ·rintro⟨n,hn,e⟩
  obtain⟨i,hi,rfl⟩:=List.mem_iff_getElem.mp hn
  exact⟨i,_,List.getElem?_eq_getElem hi,by simpa using e⟩
 ·rintro⟨i,nd,h,e⟩
  exact⟨nd,List.mem_of_getElem? h,by simpa using e⟩
structure LayS.Le (l l':LayS):Prop where
 a:l'.a=l.a
 dx:l'.dx=l.dx
 m:l'.m=l.m
 rd:l'.rd=l.rd
theorem LayS.Le.refl:l.Le l:=⟨rfl,rfl,rfl,rfl⟩
theorem LayS.Le.trans {l' l'':LayS}(x:l.Le l')(y:l'.Le l''):l.Le l'':=⟨y.a.trans x.a,y.dx.trans x.dx,y.m.trans x.m,y.rd.trans x.rd⟩
theorem Srt.al (S:Srt g T s.heap l σ):Alloc l.W s:=S.alloc
section
theorem n2i_get {k:Int}{t:Tok}(S:Srt g T s.heap l σ)(h:Q ((valueAt (cK l.ns σ.nodes) k).getD .none) { s with toks:=s.toks+1 }):wpAny g.M A (call (.builtin "dict.get") [.ref l.m,.int k t]) Q E s :=
 call_meetsIn PySem.F.slot_dict_get S.n2i.typeIs PySem.F.entry_dict_get (PySem.F.args_dict_get_2 _ _) (meets_dict_get (intKind g.prog g.w) l.m (intKind_is g.prog g.w k t) S.sys) ⟨_,S.n2i.mapOf,h⟩
theorem n2i_meth {Q:Value×List Value->Shared->Prop}{pl:Sem Bool}(S:Srt g T s.heap l σ)(h:Q (.builtin "dict.get",[.ref l.m]) s):wpAny g.M A (getMethod (.ref l.m) "get" pl) Q E s :=
 getMethod_builtin S.n2i.typeIs PySem.F.plainAttrs_dict PySem.F.slot_dict_get PySem.F.type_dict_get S.n2i.mapOf.noDict h
end
theorem v8 {M:Model}{o i:Expr}{Q:Unit->Shared->Prop}
  (h:wpAny M A (eval o env) (λov s2=>wpAny M A (eval i env) (λiv s3=>wpAny M A (setItem ov iv v) Q E s3) E s2) E s):wpAny M A (PySem.assign (.Subscript o i pos) env v) Q E s:=by
 rw [PySem.assign_Subscript]
 refine wpAny_bind (wpAny_holding (wpAny_mono h (λov s2 h2=>wpAny_bind (wpAny_holding (wpAny_mono h2 (λiv s3 h3=>λΓ p hΓ=>?_) λzw zw z=>z))) λzw zw z=>z))
 rw [Sem.wp_bind',Sem.wp_cmd_standAt,Sem.wp_bind',Sem.wp_holding]
 exact Sem.wp_mono M Γ _ (λzw zw zw h'=>by rw [Sem.wp_release]; exact h') (λzw zw zw h'=>h') _ _ (h3 Γ _ hΓ)
theorem j8 {k:Int}(h:σ.has k=true):σ.touch k=σ:=by unfold SS.touch; rw [if_pos h]
theorem j7 {k:Int}(h:¬σ.has k=true):σ.touch k={ σ with nodes:=σ.nodes++[⟨k,0,[]⟩] }:=by unfold SS.touch; rw [if_neg h]
theorem sW {k:Int}{t:Tok}{code code':Value}(at_:At g (n+3) A O M l.W F s)(TK:TopoOk g.K T)
  (fk:FnM g.K T.gni "TopologicalSorter" "_get_nodeinfo" ["self","node"] code) (fn:FnM g.K T.ninit "_NodeInfo" "__init__" ["self","node"] code') (hN:nsIn g.K mainGlobals "_NodeInfo"=some (some (.ref T.N)))
  (S:Srt g T s.heap l σ) (hb:σ.nodes.length < 1000)
  (q:∀(s':Shared) (l':LayS) (i:Nat) (a:NdA) (nd:Nd),Eff l.W F s l'.W s'->Srt g T s'.heap l' (σ.touch k)->l.Le l'->l'.ns[i]?=some a->(σ.touch k).nodes[i]?=some nd->nd.id=k->R (.ok (.ret (.ref a.info))) s') :
  codeAny g.M A (.call (.ref T.gni) ⟨[.ref l.a,.int k t],[]⟩) R s:=by
 refine eY (ds:=[objD l.a,.int k]) at_ fk (.cons .obj (.cons .int .nil)) rfl rfl rfl λenv P O' s2 r hc hk=>?_
 revert r
 (show let c:Fx:=_; Run c _ _ _ _ _->_)
 intro c r
 ((show let Q0:=_; wpAny _ _ _ Q0 _ _); intro Q0)
 conv in (mOf _ _).1=>whnf
 have S2:Srt g T s2.heap l σ:=S.keeps λb o zw=>hk b o
 refine wpAny_execs_cons (wpAny_If (wpAny_isTrue_Compare1 (wpAny_NamedExpr (MethodCall_ (Attribute_Name_ (r.name rfl (by decide) λv rv=>?_)))) rfl))
 have:=aU rv; subst this
 refine nU S2 r.now TK (n2i_meth (g:=g) (T:=T) (l:=l) (σ:=σ) S2 (callWith_builtin (aL rfl) (aK rfl (wpAny_items_cons ((r.toks (s2.toks+1)).name rfl (by decide) λv rv=>wpAny_items_nil ?_) rfl))))
 obtain⟨u,rfl⟩:=aH rv
 refine n2i_get (g:=g) (T:=T) (l:=l) (σ:=σ) S2 ?_
 have r:=r.toks (s2.toks+1+1)
 by_cases hh:σ.has k=true
 ·
  obtain⟨i,nd,h2,hid⟩:=has_iff.mp hh
  obtain⟨a,h1⟩:∃a,l.ns[i]?=some a:=⟨_,List.getElem?_eq_getElem (by rw [S.len]; exact(List.getElem?_eq_some_iff.mp h2).1)⟩
  have e:valueAt (cK l.ns σ.nodes) k=some (.ref a.info):=by rw [<- hid]; exact rR S.len S.ids h1 h2
  rw [e]
  refine r.assign (d:=objD a.info) rfl .obj λs3 c3 r3=>?_
  have S3:Srt g T s3.heap l σ:=S2.keeps (r.same c3)
  refine r3.e0 fX λv' s4 k4 rv' r4=>hG (g:=g) (n:=n) O' No _ s4 _ _ _ _ (r4.rm.le (by show n<=n+2; (exact Nat.le_add_right _ _))) (Rd.obj (k:=0) (a:=a.info)) rv' (wpAny_truthy_bool ?_)
  refine wpAny_execs_nil (wpAny_execs_cons (wpAny_Return_some (r4.name (d:=objD a.info) (k:=0) rfl (by decide) λv rv=>?_)))
  have:=aU rv; subst this
  refine q s4 l i a nd ?_ ?_ .refl h1 ?_ hid
  ·exact r4.eff_out λzw h=>h
  ·rw [j8 hh]; exact S3.keeps λb o zw=>aA k4 b o
  ·rw [j8 hh]; exact h2
 ·have hno:∀n∈σ.nodes,n.id≠k:=λn hn e=>hh (by
   obtain⟨i,hi,rfl⟩:=List.mem_iff_getElem.mp hn
   exact has_iff.mpr ⟨i,_,List.getElem?_eq_getElem hi,e⟩)
  have e:valueAt (cK l.ns σ.nodes) k=none:=zip_none hno
  rw [e]
  refine r.assign (d:=.none) rfl .none λs3 c3 r3=>?_
  have S3:Srt g T s3.heap l σ:=S2.keeps (r.same c3)
  refine r3.e0 fX λv' s4 k4 rv' r4=>hG (g:=g) (n:=n) O' No _ s4 _ _ _ _ (r4.rm.le (by show n<=n+2; (exact Nat.le_add_right _ _))) (Rd.none (k:=0)) rv' (wpAny_truthy_bool ?_)
  ((show let Q0:=_; let E0:=_; wpAny _ _ _ Q0 E0 _); intro Q0 E0)
  have S4:Srt g T s4.heap l σ:=S3.keeps λb o zw=>aA k4 b o
  refine wpAny_execs_cons (wpAny_Assign_two ?_)
  ((show let Q0:=_; wpAny _ _ _ Q0 _ _); intro Q0)
  refine Call_ (bG r4.act.up r4.act.eo rfl hN (by decide) (callWith_K r4.now TK.n.keep (wpAny_items_cons (r4.name (d:=.int k) (k:=0) rfl (by decide) λv rv=>wpAny_items_nil ⟨r4.now,?_⟩) rfl)))
  obtain⟨u',rfl⟩:=aH rv
  refine wpAny_call (uR (n:=n) (r4.at) TK fn λs5 a cx5 N5 new nda=>?_)
  ((show let Q0:=_; wpAny _ _ _ Q0 _ _); intro Q0)
  let l':LayS:={ l with ns:=l.ns++[a] }
  have W5:Alloc (λb=>l.W b\/b∈a.all) s5:=λb hb=>by
   rcases hb with hb | hb
   ·obtain⟨o,e⟩:=S4.al b hb
    obtain⟨⟨sl,e'⟩,_⟩:=cx5.2 b o id e
    exact⟨_,e'⟩
   ·obtain⟨⟨t1,t2,e1⟩,e2,vs,m,e3,_⟩:=N5
    simp only [NdA.all,List.mem_cons,List.not_mem_nil,or_false] at hb
    rcases hb with rfl | rfl | rfl
    ·exact⟨_,e1⟩
    ·exact⟨_,e2⟩
    ·exact⟨_,e3⟩
  have r5:=r4.eff (W':=λb=>l.W b\/b∈a.all) (cx5.mono No.le λzw h=>h) (λzw h=>.inl h) (λb hb=>by
   rcases hb with hb | hb
   ·exact .inl hb
   ·exact .inr (new b hb)) W5
  have S5:Srt g T s5.heap l σ:=S4.keeps λb o hb e=>(cx5.2 b o id e).2 (r4.at.wf b hb)
  refine v8 (Attribute_Name_ (r5.name (d:=objD l.a) (k:=0) rfl (by decide) λv rv=>?_))
  ((show let Q0:=_; wpAny _ _ _ Q0 _ _); intro Q0)
  have:=aU rv; subst this
  refine nU S5 r5.now TK ((r5.toks (s5.toks+1)).name (d:=.int k) (k:=0) rfl (by decide) λv rv=>?_)
  obtain⟨u'',rfl⟩:=aH rv
  have hlen:(cK l.ns σ.nodes).length<=sizeLine:=by
   have:(cK l.ns σ.nodes).length<=1000:=by unfold cK; rw [List.length_zipWith]; have:=S.big; omega
   have hs:(1000:Nat)<=sizeLine:=by decide
   (exact Nat.le_trans (by assumption) (by assumption))
  refine wpAny_setItem_pairs (intKind_is g.prog g.w k u'') S5.n2i (λh6 hd6 hs6=>?_) hlen
  rw [tP (nd:=⟨k,0,[]⟩) S.len hno rfl] at hd6
  have off:∀b,b∈a.all->b≠l.m:=λb hb z=>by
   have h1:=new b hb
   obtain⟨o,e⟩:=S4.al l.m (show l.m∈l.all by simp [LayS.all])
   rw [<- z,h1] at e; cases e
  have S6:Srt g T h6 l' (σ.touch k):=by
   rw [j7 hh]
   refine S5.insert hd6 (λb o zw hb e=>(hs6.2 b hb).trans e) (N5.keeps λb o hb e=>(hs6.2 b (off b hb)).trans e) (λb hb hl=>?_) nda hno hb
   obtain⟨o,e⟩:=S4.al b hl
   rw [new b hb] at e; cases e
  have hW:∀b,(l.W b\/b∈a.all)->l'.W b:=λb hb=>by
   have e:l'.all=l.all++a.all:=by simp [l',LayS.all]
   show b∈l'.all
   rw [e]; exact List.mem_append.mpr hb
  have hW':∀b,l'.W b->(l.W b\/b∈a.all):=λb hb=>by
   have e:l'.all=l.all++a.all:=by simp [l',LayS.all]
   have hb:b∈l'.all:=hb
   rw [e] at hb; exact List.mem_append.mp hb
  have r6:=(r5.toks (s5.toks+1)).eff (W':=l'.W) (s':={ s5 with heap:=h6,toks:=s5.toks+1+1 }) ((aY (s:={ s5 with toks:=s5.toks+1 }) hs6 (.inl (show l.m∈l.all by simp [LayS.all])) rfl).mono (λzw h=>h) No.le) hW (λb hb=>.inl (hW' b hb)) S6.al
  refine r6.assign (d:=objD a.info) rfl .obj λs7 c7 r7=>wpAny_execs_nil ?_
  refine wpAny_execs_cons (wpAny_Return_some (r7.name (d:=objD a.info) (k:=0) rfl (by decide) λv rv=>?_))
  have:=aU rv; subst this
  have S7:Srt g T s7.heap l' (σ.touch k):=S6.keeps (r6.same c7)
  refine q s7 l' l.ns.length a ⟨k,0,[]⟩ (r7.eff_out λb hb=>hW b (.inl hb)) S7 ⟨rfl,rfl,rfl,rfl⟩ (by simp [l']) ?_ rfl
  rw [j7 hh,S.len]; simp
noncomputable def AN (c:Fx) (M:Avoid) (J B:Avoid->Rho->Shared->Prop) (VV:Value->Avoid->Avoid->Rho->Shared->Prop) (fl:Flow) (s:Shared):Prop:=match fl with
 | .next | .cont=>∃O W V,Run c O M W V s/\J W V s
 | .brk=>∃O W V,Run c O M W V s/\B W V s
 | .ret v=>∃O W V,Run c O M W V s/\VV v O W V s
noncomputable def Stays (J:Avoid->Rho->Shared->Prop):Prop:=∀W V s s',J W V s->(∀b o,W b->s.heap.get? b=some o->s'.heap.get? b=some o)->J W V s'
noncomputable def StaysX (X:Avoid) (J:Avoid->Rho->Shared->Prop):Prop:=∀W V s s',J W V s->(∀b o,W b\/X b->s.heap.get? b=some o->s'.heap.get? b=some o)->J W V s'
structure ItrX (g:Glob) (A:Around) (X:Avoid) (tt:Bool) (it:Value) (ds:List D) (O M W:Avoid) (s s_1:Shared) (St:Nat->Heap->Prop):Prop where
 start:St 0 s_1.heap
 wnew:∀b,W b->s.heap.get? b=none/\∃o,s_1.heap.get? b=some o
 kinds:∀i h,St i h->∀b,W b->∃o,h.get? b=some o/\isFS o=true
 frame:∀i h h',St i h->(∀b o,(¬O b\/X b)->¬M b->(∃o',s_1.heap.get? b=some o')->h.get? b=some o->h'.get? b=some o)->St i h'
 item:∀(O' M':Avoid) i d (t:Shared) (target:Expr) (E:Value->Shared->Prop) (Q:Value->Shared->Prop),Wid O W O' s_1->Wid M W M' s_1->Tgt tt target->ds[i]?=some d->St i t.heap->Alloc O' t->Alloc M' t →
  (∀v t_2,Chg W t t_2->Rd O' M' t_2.heap 0 v d->St (i+1) t_2.heap->Q v t_2) →
  wpAny g.M A (pyNext it) (λr t_1=>∃v,r=some v/\wpAny g.M A (letOwnedTupleGo target it v) (λzw t_2=>Q v t_2) E t_1) E t
 done:∀(t:Shared) (E:Value->Shared->Prop) (Q:Option Value->Shared->Prop),St ds.length t.heap->(∀t_1,Chg W t t_1->Q none t_1)->wpAny g.M A (pyNext it) Q E t
noncomputable def IterX (g:Glob) (n:Nat) (X:Avoid) (V:Rho) (tt:Bool) (e:Expr) (ds:List D):Prop :=
 ∀(O M:Avoid) (env:Env) (A:Around) (s:Shared) (E:Value->Shared->Prop) (Q:Value->Shared->Prop),g.Up s->Room n A->Alloc O s->Alloc M s->EnvOk O M V env s.heap->(∀b,X b->¬M b) →
  (∀it s_1 W St,Keeps s s_1->ItrX g A X tt it ds O M W s s_1 St->Q it s_1)->wpAny g.M A (eval e env) (λx s'=>wpAny g.M A (pyIter x) Q E s') E s
theorem IterS.toX {X:Avoid}{tt:Bool}(I:IterS g n V tt e ds):IterX g n X V tt e ds:=λO M env A s E Q u rm aO aM eo hXM q =>
 I O M env A s E Q u rm aO aM eo λit s_1 W St k x=>q it s_1 W St k ⟨x.start,x.wnew,x.kinds,λi h h' st hk=>x.frame i h h' st λb o ho hm=>hk b o (.inl ho) hm,x.item,x.done⟩
theorem Run.forX {X:Avoid}{W:Avoid}{body:List Stmt}{xs:List Str}{items:List D}{Q:Flow->Shared->Prop}(r:Run c O M W V s)
  (hn:aR target=some xs) (hs:dE iter=true) (hX:∀b,X b->(∃o,s.heap.get? b=some o)/\¬c.P b/\¬M b/\¬W b/\¬c.Fc b) (I:IterX (c.g.now s r.act.up) c.n X V (ttOf target) iter items)
  (J:Nat->Avoid->Rho->Shared->Prop) (B:Avoid->Rho->Shared->Prop) (VV:Value->Avoid->Avoid->Rho->Shared->Prop) (hJ:∀i,StaysX X (J i)) (h0:J 0 W V s)
  (hx:∀(i:Nat) d W' V' s',items[i]?=some d->J i W' V' s'->xs.all (stOk V')=true/\∃V1,jT V' target d=some V1)
  (hst:∀(Z O0:Avoid) (t:Shared) (i:Nat) d O' W' V' V1 s' E',items[i]?=some d->jT V' target d=some V1->J i W' V' s'->Run (c.prot Z O0 t) O' M W' V1 s' →
   wpAny c.g.M c.Ar (execs body c.env) (AN (c.prot Z O0 t) M (J (i+1)) B VV) E' s')
  (hend:∀O' W' V' s',(∀b,O b->O' b)->Run c O' M W' V' s'->J items.length W' V' s'->Q .next s') (hbrk:∀O' W' V' s',(∀b,O b->O' b)->Run c O' M W' V' s'->B W' V' s'->Q .next s') (hret:∀v O' W' V' s',(∀b,O b->O' b)->Run c O' M W' V' s'->VV v O' W' V' s'->Q (.ret v) s') :
  wpAny c.g.M c.Ar (exec (.For target iter body [] p) c.env) Q E s:=by
 refine wpAny_For ?_ (bU hs c.env)
 refine I O M c.env c.Ar s E _ (Glob.now_up _) r.rm r.act.aO r.act.aM r.act.eo (λb hb=>(hX b hb).2.2.1) λit s_1 Wi St k1 it1=>?_
 have hW:∀b,Wi b->s.heap.get? b=none:=λb hb=>(it1.wnew b hb).1
 have r1:=r.keeps k1
 let Zi:Avoid:=λb=>(¬O b\/X b)/\¬M b/\∃o,s_1.heap.get? b=some o
 have zP:∀b,(¬O b\/X b)->¬c.P b/\¬c.Fc b:=λb hb=>by
  rcases hb with hb | hb
  ·exact⟨λz=>hb (r.pl.po b z),λz=>hb (r.fcO b z)⟩
  ·exact⟨(hX b hb).2.1,(hX b hb).2.2.2.2⟩
 have old:∀b,(∃o,s.heap.get? b=some o)->¬Wi b:=λb ⟨o,e⟩ z=>by rw [hW b z] at e; cases e
 have start:∃O',(∀b,O' b↔O b\/Wi b)/\Run c O' M W V s_1:=by
  refine⟨λb=>O b\/Wi b,λzw=>Iff.rfl,{ r1 with act:=?_,pl:=⟨r.pl.store,λb h=>.inl (r.pl.po b h),r.pl.pg,r.pl.live⟩,oo:=λb h=>.inl (r.oo b h),on:=λb h=>?_,lo:=.inl r.lo,nf:=λb hb z=>?_,wo:=λb h=>.inl (r.wo b h),oz:=λb h=>?_,ou:=λb h=>.inl (r.ou b h) }⟩
  ·refine⟨r1.act.up,λb h=>?_,r1.act.aM,(r.act.eo.wid (O':=λb=>O b\/Wi b) λb h=>by
    rcases h with h | h
    ·exact .inl h
    ·exact .inr (hW b h)).keeps (aA k1),r1.act.fo⟩
   rcases h with h | h
   ·exact r1.act.aO b h
   ·exact(it1.wnew b h).2
  ·rcases h with h | h
   ·exact r.on b h
   ·exact .inr (.inr (r.none0 (hW b h)))
  ·rcases z with z | z
   ·exact r.nf b hb z
   ·exact old b (r.act.aM b hb) z
  ·rcases h with h | h
   ·exact r.oz b h
   ·right
    cases e:c.zs.heap.get? b with
    | none=>rfl
    | some o=>exact absurd h (old b (r.zx b ⟨o,e⟩))
 obtain⟨Os,hOs,rs⟩:=start
 have hZW:∀b,Zi b->¬W b:=λb hz hw=>by
  rcases hz.1 with h | h
  ·exact h (r.wo b hw)
  ·exact(hX b h).2.2.2.1 hw
 refine codeAny_forLoop_any (prog:=c.g.prog) (w:=c.g.w) (λk t=>∃i O' W' V',k=items.length+1 - i/\i<=items.length/\St i t.heap/\Run c O' M W' V' t/\J i W' V' t/\(∀b,O b\/Wi b->O' b)/\(∀b,O' b->O b\/Wi b\/s_1.heap.get? b=none)/\(∀b,Zi b->¬W' b/\∃o,t.heap.get? b=some o)) ?_ (items.length+1)
  ⟨0,Os,W,V,rfl,Nat.zero_le _,it1.start,rs,hJ 0 _ _ _ _ h0 (λb o zw e=>aA k1 _ _ e),λb h=>(hOs b).mpr h,λb h=>by
   rcases(hOs b).mp h with h | h
   ·exact .inl h
   ·exact .inr (.inl h),λb h=>⟨hZW b h,h.2.2⟩⟩
 intro k t hinv
 ((show let Q0:=_; let E0:=_; wpAny _ _ _ Q0 E0 _); intro Q0 E0)
 refine wp_q λQ_0 hQ0=>?_
 obtain⟨i,O',W',V',rfl,hi,st,rt,jt,hO1,hO2,hZt⟩:=hinv
 have kd:=it1.kinds i _ st
 have wW:∀b,Wi b->¬W' b:=λb hb=>(hZt b ⟨.inl λz=>old b (r.act.aO b z) hb,λz=>old b (r.act.aM b z) hb,(it1.wnew b hb).2⟩).1
 have stepW:∀(t2:Shared),Chg Wi t t2->(∀b,Wi b->∃o,t2.heap.get? b=some o)->Run c O' M W' V' t2/\J i W' V' t2/\(∀b,Zi b->¬W' b/\∃o,t2.heap.get? b=some o):=λt2 chW lvW=>by
  have lv:∀b,(∃o,t.heap.get? b=some o)->∃o,t2.heap.get? b=some o:=λb ⟨o,e⟩=>by
   by_cases hb:Wi b
   ·exact lvW b hb
   ·exact⟨o,chW.2 b o hb e⟩
  have gW:∀b o,c.g.h.get? b=some o->¬Wi b:=λb o e=>old b ⟨o,r.act.up b o e⟩
  have a2:Act c.g O' M V' c.env t2:=rt.act.chgW chW (λb h=>hO1 b (.inr h)) kd lvW gW
  refine⟨{ rt with act:=a2,aw:=λb hb=>lv b (rt.aw b hb),ca:=λy b h=>lv b (rt.ca y b h),frm:=rt.frm.cx (W:=Wi) (F':=No) (.of_chg chW) (λb hb z=>?_),cx:=rt.cx.step (W:=Wi) (F:=No) (.of_chg chW) (λb hb=>.inr (r.none0 (hW b hb))) (λzw h=>h.elim),zk:=λb o hb e=>chW.2 b o (λz=>?_) (rt.zk b o hb e),zx:=λb h=>lv b (rt.zx b h) },hJ i _ _ _ _ jt λb o hb e=>chW.2 b o (λz=>by
    rcases hb with hb | hb
    ·exact wW b z hb
    ·exact old b (hX b hb).1 z) e,λb hb=>⟨(hZt b hb).1,lv b (hZt b hb).2⟩⟩
  ·obtain⟨o,e⟩:=r.aF b z
   rw [r.none0 (hW b hb)] at e; cases e
  ·exact old b (r.zx b (r.zo b hb).1) z
 by_cases hlt:i < items.length
 ·have hd:items[i]?=some items[i]:=List.getElem?_eq_getElem hlt
  have wdO:Wid O Wi O' s_1:=⟨λb h=>hO1 b (.inl h),λb h=>hO2 b h⟩
  refine' wpAny_mono (it1.item O' M i _ t target _ _ wdO Wid.refl (fG hn) hd st rt.act.aO rt.act.aM _) (λr t1 h=>hQ0 _ _ (Exists.elim h λv h=>h.1 ▸ h.2)) λzw zw z=>z
  intro v t2 chW rv st2
  ((show let Q0:=_; let E0:=_; wpAny _ _ _ Q0 E0 _); intro Q0 E0)
  have kd2:=it1.kinds _ _ st2
  obtain⟨r2,j2,z2⟩:=stepW t2 chW λb h=>(kd2 b h).elim λo zq=>zq.elim λe zw=>⟨o,e⟩
  obtain⟨hxs,V1,hb⟩:=hx i _ _ _ _ hd j2
  refine gH (A:=c.Ar) r.rm.handled r2.pl r2.act hn hxs rv hb λt3 c3 a3=>?_
  ((show let Q0:=_; wpAny _ _ _ Q0 _ _); intro Q0)
  refine wp_q λQs hQs=>?_
  have r3:=r2.chg c3.pm a3
  have j3:J i W' V' t3:=hJ i _ _ _ _ j2 λb o hb e=>by
   rcases hb with hb | hb
   ·exact r2.same c3.pm b o hb e
   ·exact c3.2 b o (hX b hb).2.1 e
  let Z':Avoid:=λb=>c.Z b\/Zi b
  have hZ':∀b,Z' b->(∃o,t3.heap.get? b=some o)/\¬c.P b/\¬M b/\¬W' b/\¬c.Fc b:=λb hz=>by
   rcases hz with hz | hz
   ·obtain⟨⟨o,e⟩,x1,x2,x3,x4⟩:=r3.zo b hz
    exact⟨⟨o,r3.zk b o hz e⟩,x1,x2,x3,x4⟩
   ·refine⟨?_,(zP b hz.1).1,hz.2.1,(hZt b hz).1,(zP b hz.1).2⟩
    obtain⟨o,e⟩:=(z2 b hz).2
    exact⟨o,c3.2 b o (zP b hz.1).1 e⟩
  have rp:=r3.prot hZ'
  have st3:St (i+1) t3.heap:=it1.frame _ _ _ st2 λb o ho hm zw e=>c3.2 b o (zP b ho).1 e
  refine wpAny_mono (hst Z' O' t3 i _ O' W' V' V1 t3 _ hd hb j3 rp) (λfl s2 te=>?_) λzw zw z=>z
  have back:∀{O'' W'' V''},Run (c.prot Z' O' t3) O'' M W'' V'' s2->Run c O'' M W'' V'' s2:=λx=>x.unprot r3 (λb h=>.inl h) (λb h=>h) r3.ou
  have go:(∃O W V,Run (c.prot Z' O' t3) O M W V s2/\J (i+1) W V s2)->∃m,m < items.length+1 - i/\∃i O' W' V',m=items.length+1 - i/\i<=items.length/\St i s2.heap/\Run c O' M W' V' s2/\J i W' V' s2/\(∀b,O b\/Wi b->O' b)/\(∀b,O' b->O b\/Wi b\/s_1.heap.get? b=none)/\(∀b,Zi b->¬W' b/\∃o,s2.heap.get? b=some o):=λ⟨O'',W'',V'',x,j⟩=>by
   refine⟨items.length+1 - (i+1),by grind,i+1,O'',W'',V'',rfl,by assumption,?_,back x,j,λb h=>x.ou b (hO1 b h),λb h=>?_,λb h=>⟨(x.zo b (.inr h)).2.2.2.1,?_⟩⟩
   ·refine it1.frame _ _ _ st3 λb o ho hm hex e=>x.zk b o (.inr ⟨ho,hm,hex⟩) e
   ·rcases x.oz b h with h | h
    ·exact hO2 b h
    ·right; right
     have h:t3.heap.get? b=none:=h
     cases e:s_1.heap.get? b with
     | none=>rfl
     | some o =>
      exfalso
      by_cases ho:O b
      ·obtain⟨o',e'⟩:=r3.act.aO b (hO1 b (.inl ho)); rw [h] at e'; cases e'
      ·by_cases hm:M b
       ·obtain⟨o',e'⟩:=r3.act.aM b hm; rw [h] at e'; cases e'
       ·obtain⟨⟨o',e'⟩,_⟩:=hZ' b (.inr ⟨.inl ho,hm,o,e⟩); rw [h] at e'; cases e'
   ·obtain⟨o,e⟩:=(x.zo b (.inr h)).1
    exact⟨o,x.zk b o (.inr h) e⟩
  refine hQs _ _ ?_
  cases fl with
  | next=>exact go te
  | cont=>exact go te
  | brk=>obtain⟨O'',W'',V'',x,b⟩:=te; exact hbrk _ _ _ _ (λb h=>x.ou b (hO1 b (.inl h))) (back x) b
  | ret v=>obtain⟨O'',W'',V'',x,b⟩:=te; exact hret _ _ _ _ _ (λb h=>x.ou b (hO1 b (.inl h))) (back x) b
 ·have hie:i=items.length:=by grind
  subst hie
  refine it1.done t _ _ st λt1 chW=>hQ0 _ _ (wpAny_execs_nil ?_)
  have lv:∀b,(∃o,s.heap.get? b=some o)->(∃o,t.heap.get? b=some o)->∃o,t1.heap.get? b=some o:=λb h ⟨o,e⟩=>⟨o,chW.2 b o (old b h) e⟩
  have gW:∀b o,c.g.h.get? b=some o->¬Wi b:=λb o e=>old b ⟨o,r.act.up b o e⟩
  refine hend (λb=>O' b/\¬Wi b) W' V' t1 (λb h=>⟨hO1 b (.inl h),old b (r.act.aO b h)⟩) { rt with
   act:=⟨chW.up rt.act.up gW,λb hb=>(rt.act.aO b hb.1).elim λo e=>⟨o,chW.2 b o hb.2 e⟩,λb hb=>lv b (r.act.aM b hb) (rt.act.aM b hb),(rt.act.eo.chgW chW (λb h=>hO1 b (.inr h)) kd).impO λb h=>h.1,rt.act.fo.chgW chW kd⟩
   pl:=⟨rt.pl.store,λb h=>⟨rt.pl.po b h,old b (r.pl.live s r.act.fo b h)⟩,rt.pl.pg,rt.pl.live⟩
   aw:=λb hb=>lv b (r.aw b hb) (rt.aw b hb)
   ca:=λy b h=>lv b (r.ca y b h) (rt.ca y b h)
   frm:=rt.frm.cx (W:=Wi) (F':=No) (.of_chg chW) (λb hb z=>by obtain⟨o,e⟩:=r.aF b z; rw [r.none0 (hW b hb)] at e; cases e)
   cx:=rt.cx.step (W:=Wi) (F:=No) (.of_chg chW) (λb hb=>.inr (r.none0 (hW b hb))) (λzw h=>h.elim)
   oo:=λb h=>⟨rt.oo b h,old b (r.act.aO b (r.oo b h))⟩
   on:=λb h=>rt.on b h.1
   lo:=⟨rt.lo,old _ (r.act.aO _ r.lo)⟩
   nf:=λb hb z=>rt.nf b hb z.1
   wo:=λb h=>⟨rt.wo b h,λz=>wW b z h⟩
   zk:=λb o hb e=>chW.2 b o (old b (r.zx b (r.zo b hb).1)) (rt.zk b o hb e)
   zx:=λb h=>lv b (r.zx b h) (rt.zx b h)
   oz:=λb h=>rt.oz b h.1
   ou:=λb h=>⟨rt.ou b h,old b (r.act.aO b (r.ou b h))⟩ } (hJ _ _ _ _ _ jt λb o hb e=>chW.2 b o (λz=>by
    rcases hb with hb | hb
    ·exact wW b z hb
    ·exact old b (hX b hb).1 z) e)
theorem Run.forL {W:Avoid}{body:List Stmt}{xs:List Str}{items:List D}{Q:Flow->Shared->Prop}(r:Run c O M W V s)
  (hn:aR target=some xs) (hs:dE iter=true) (I:IterS (c.g.now s r.act.up) c.n V (ttOf target) iter items)
  (J:Nat->Avoid->Rho->Shared->Prop) (B:Avoid->Rho->Shared->Prop) (VV:Value->Avoid->Avoid->Rho->Shared->Prop) (hJ:∀i,Stays (J i)) (h0:J 0 W V s)
  (hx:∀(i:Nat) d W' V' s',items[i]?=some d->J i W' V' s'->xs.all (stOk V')=true/\∃V1,jT V' target d=some V1)
  (hst:∀(Z O0:Avoid) (t:Shared) (i:Nat) d O' W' V' V1 s' E',items[i]?=some d->jT V' target d=some V1->J i W' V' s'->Run (c.prot Z O0 t) O' M W' V1 s' →
   wpAny c.g.M c.Ar (execs body c.env) (AN (c.prot Z O0 t) M (J (i+1)) B VV) E' s')
  (hend:∀O' W' V' s',(∀b,O b->O' b)->Run c O' M W' V' s'->J items.length W' V' s'->Q .next s') (hbrk:∀O' W' V' s',(∀b,O b->O' b)->Run c O' M W' V' s'->B W' V' s'->Q .next s') (hret:∀v O' W' V' s',(∀b,O b->O' b)->Run c O' M W' V' s'->VV v O' W' V' s'->Q (.ret v) s') :
  wpAny c.g.M c.Ar (exec (.For target iter body [] p) c.env) Q E s :=
 r.forX (X:=No) hn hs (λzw h=>h.elim) I.toX J B VV (λi W V s s' j k=>hJ i W V s s' j λb o hb=>k b o (.inl hb)) h0 hx hst hend hbrk hret
theorem Run.whileL {W:Avoid}{test:Expr}{body orelse:List Stmt}{Q:Flow->Shared->Prop}(r:Run c O M W V s)
  (J:Nat->Avoid->Rho->Shared->Prop) (n:Nat) (h0:J n W V s)
  (hst:∀(i:Nat) O' W' V' s' E',J i W' V' s'->Run c O' M W' V' s' →
   wpAny c.g.M c.Ar (isTrue test c.env (eval test c.env)) (λb s2=>if b then wpAny c.g.M c.Ar (execs body c.env) (λfl s3=>match fl with
    | .next | .cont=>∃m,m < i/\∃O W V,Run c O M W V s3/\J m W V s3
    | .brk=>Q .next s3
    | .ret v=>Q (.ret v) s3) E' s2 else wpAny c.g.M c.Ar (execs orelse c.env) Q E' s2) E' s') :
  wpAny c.g.M c.Ar (exec (.While test body orelse p) c.env) Q E s:=by
 refine wpAny_While ?_
 refine codeAny_whileLoop (prog:=c.g.prog) (w:=c.g.w) (λk t=>∃O' W' V',Run c O' M W' V' t/\J k W' V' t) ?_ n ⟨O,W,V,r,h0⟩
 intro k t hJ
 ((show let Q0:=_; let E0:=_; wpAny _ _ _ Q0 E0 _); intro Q0 E0)
 obtain⟨O',W',V',rt,jt⟩:=hJ
 ((show let Q0:=_; let E0:=_; wpAny _ _ _ Q0 E0 _); intro Q0 E0)
 refine wpAny_mono (hst k O' W' V' t _ jt rt) (λb s2 h=>?_) λzw zw z=>z
 cases b with
 | true =>
  simp only [if_true] at h ⊢
  refine wpAny_mono h (λfl s3 h=>?_) λzw zw z=>z
  cases fl with
  | next=>obtain⟨m,hm,O'',W'',V'',x,j⟩:=h; exact⟨m,hm,O'',W'',V'',x,j⟩
  | cont=>obtain⟨m,hm,O'',W'',V'',x,j⟩:=h; exact⟨m,hm,O'',W'',V'',x,j⟩
  | brk=>exact h
  | ret v=>exact h
 | false=>exact h
section
section
theorem IsT.isTuple {vs:Array Value}{m:Nat}(x:IsT h a vs m):h.IsTuple a vs:=⟨_,x,rfl,m,rfl⟩
theorem itr_tup {sa:Shared}{vs:Array Value}{m:Nat}(hh:A.handled=none)(k0:Keeps s sa)(aOa:Alloc O sa)(aM:Alloc M sa)(hO:¬O a)(hM:¬M a)(hl:IsT sa.heap a vs m)(r:Rds O M sa.heap 0 vs.toList ds) :
  Itr g A false (.ref sa.heap.objs.size) ds O M (λb=>b=sa.heap.objs.size) s { sa with heap:=sa.heap.push { cls:=.type "tuple_iterator",data:=.fields #[.ref a,.int 0 0] } }
   (λi h=>h.IsTupleIter sa.heap.objs.size a i/\Agree O M sa h):=by
 have hlt:a < sa.heap.objs.size:=Heap.lt_size hl
 have k1:Keeps sa { sa with heap:=sa.heap.push { cls:=.type "tuple_iterator",data:=.fields #[.ref a,.int 0 0] } }:=aI sa _ _
 have hlen:=r.length
 rw [Array.length_toList] at hlen
 have hW:∀b,b=sa.heap.objs.size->sa.heap.get? b=none:=λb hb=>by subst hb; exact bZ (aD sa)
 refine⟨⟨⟨_,Heap.get?_push_size _ rfl,rfl,rfl⟩,Agree.refl k1⟩,λb hb=>by subst hb; exact⟨bZ k0,_,Heap.get?_push_size _ rfl⟩,λi h st b hb=>by
   subst hb
   obtain⟨o,ho,hc,hd⟩:=st.1
   exact⟨o,ho,by unfold isFS; rw [hd]⟩,
  λi h h' ⟨⟨o,ho,hr⟩,ag⟩ hk=>⟨⟨o,hk _ _ aOa.new aM.new ⟨_,Heap.get?_push_size _ rfl⟩ ho,hr⟩,λb c ws n ho hb e=>hk _ _ ho hb ⟨_,aA k1 _ _ e⟩ (ag b c ws n ho hb e)⟩,?_,?_,?_⟩
 ·intro O' M' i d t target E Q wd' wd htg hd hJ0 aO aM' q
  obtain⟨hit,ag⟩:=hJ0
  obtain⟨v,hv,hr⟩:=(wd'.rds wd k1 hW r).get hd
  have hl':t.heap.IsTuple a vs:=IsT.isTuple (ag a _ _ _ hO hM hl)
  refine wpAny_pyNext_tuple_item hit hl' (by rw [<- Array.getElem?_toList]; exact hv) λh' hit' hs'=>⟨v,rfl,?_⟩
  have ag':Agree O M sa h':=λb c ws n ho hb e=>hs'.extBut b _ (λz=>by rw [z] at e; exact absurd (Heap.lt_size e) (Nat.lt_irrefl _)) (ag b c ws n ho hb e)
  exact cC htg (q v { t with heap:=h' } ⟨⟨h',t.toks,rfl⟩,λb o hb e=>hs'.extBut b o hb e⟩ (ag'.rd wd'.up wd.up hr) ⟨hit',ag'⟩)
 ·intro t E Q hJ0 q
  obtain⟨hit,ag⟩:=hJ0
  exact wpAny_pyNext_tuple_end hh hit (IsT.isTuple (ag a _ _ _ hO hM hl)) (by rw [<- hlen]; simp) λh' he'=>q _ ⟨⟨h',t.toks,rfl⟩,λb o hb e=>he' b o hb e⟩
 ·intro t E Q hJ0 q
  obtain⟨hit,ag⟩:=hJ0
  exact wpAny_pyIter_tupleiter hit q
end
section
variable {ks:Nat}
theorem iter_tup (x:EvS g n V e (.tuple ds) 0):IterS g n V false e ds:=by
 intro O M env A s E Q u rm aO aM eo q
 refine x.use u rm aO aM eo λv sa k1 r1 u1 o1 m1 e1=>?_
 obtain⟨a,vs,m,rfl,h1,h2,h3,h4,h5⟩:=kG r1
 exact wpAny_pyIter_tuple (IsT.isTuple h2) (q _ _ _ _ (aB k1 (aI sa _ _)) (itr_tup rm.handled k1 o1 m1 h4 (h5 rfl) h2 h3))
theorem vV {xs:List D}:aZ g n (.builtin "len") [.tuple xs] ks (.int xs.length) k:=λO M A s E vs u rm aO aM rs=>by
 obtain⟨v,rfl,r⟩:=rds_one rs
 obtain⟨a,ws,m,rfl,h1,h2,h3,_⟩:=kG r
 have l:=h3.length
 rw [Array.length_toList] at l
 have hc:cap=100000:=rfl
 refine PyProof.Rows.len_tuple (items:=ws) ⟨_,h2,rfl,m,rfl⟩ (by grind) ?_
 rw [l]
 exact⟨aG s _,.int⟩
end
theorem ltS {P:Nat->Prop}(a:P 0)(h:∀i < n,P (i+1)):∀i < n+1,P i:=λi=>Nat.casesOn i (λzw=>a) λj hj=>h j (Nat.lt_of_succ_lt_succ hj)
theorem lt3c {P:Nat->Prop}(a:P 0)(b:P 1)(c:P 2):∀i < 3,P i:=ltS a (ltS (P:=λi=>P (i+1)) b (ltS (P:=λi=>P (i+2)) c λi h=>absurd h (Nat.not_lt_zero i)))
theorem iT {i:Nat}(hd:(((List.range n).map λk:Nat=>(k:Int)).map PyData.int)[i]?=some d):i < n/\d=.int (i:Int):=by
 rw [List.map_map,List.getElem?_map,Option.map_eq_some_iff] at hd
 obtain⟨j,hj,rfl⟩:=hd
 obtain⟨h1,h2⟩:=List.getElem?_eq_some_iff.mp hj
 rw [List.length_range] at h1
 rw [List.getElem_range] at h2
 exact⟨h1,by rw [<- h2]; rfl⟩
end
structure FnV (K:Frag) (f:Addr) (body:List Stmt) (names:List (Str×NameKind)) (params:List Str) (rest:Str) (code:Value):Prop where
 ex:∃c dd fd sl,K.lookup f=some ⟨c,dd,.func fd,sl⟩/\FnData fd body/\fd.closure=[]/\mR K fd.code fd.qualname=true/\fd.scope.names=names/\fd.code=code/\(∀vs ws:List Value,vs.length=params.length->bindArgs fd ⟨vs++ws,[]⟩=(do let t <- newTuple ws; pure ((params++[rest]).zip (vs++[t]))))
 nm:c9 names []=true
theorem code_fv {W:Avoid}{f:Addr}{body:List Stmt}{names:List (Str×NameKind)}{params:List Str}{rest:Str}{code:Value}{vs ws:List Value}{es:List D}
  (at_:At g (n+1) A O M W F s) (fk:FnV g.K f body names params rest code) (rs:Rds O M s.heap 0 vs ds) (rw':Rds O M s.heap 0 ws es) (hl:ds.length=params.length) (hz:es.length<=cap) (hps:(params++[rest]).all (stOk ⟨names,[]⟩)=true) (hρ:bN ⟨names,[]⟩ (params++[rest]) (ds++[.tuple es])=some V)
  (hbody:∀(env:Env) (P O':Avoid) (s2:Shared),Run ⟨g,n,A,env,P,O,M,W,F,s,No,O',s2⟩ O' No W V s2->env.code=code->(∀b o,s.heap.get? b=some o->s2.heap.get? b=some o) →
   wpAny g.M (A.deeper env) (execs body env) (λf s'=>R (.ok (.ret (retOf f))) s') (tO g A env R) s2) :
  codeAny g.M A (.call (.ref f) ⟨vs++ws,[]⟩) R s:=by
 obtain⟨⟨c,dd,fd,sl,hK,FD,hcl,hcd,hnm,hco,hb⟩,nm⟩:=fk
 subst hnm
 subst hco
 refine rK (clv:=[]) at_ (at_.up _ _ (g.X _ _ hK)) rfl FD ((bL g.X hcd).keeps at_.up) ?_ (by rw [hcl]; exact j0) (λx b h=>by rw [hcl] at h; cases h) nm hps hρ hbody
 rw [hb vs ws (by rw [rs.length,hl])]
 have hlen:=rw'.length
 refine wpAny_bind (wpAny_newObj_type (wpAny_pure ⟨vs++[.ref s.heap.objs.size],rfl,aI s _ _,?_⟩) ?_)
 ·refine(rs.keeps (aA (aI s _ _))).append (.cons ?_ .nil)
  have:=eG (k:=0) (vs:=ws.toArray) (ds:=es) at_.aO at_.aM (by simpa [hlen] using hz) (by simpa using rw')
  exact this
 ·show ws.toArray.size<=sizeLine
  rw [List.size_toArray,hlen]
  exact Nat.le_trans hz bI
noncomputable abbrev FnVM (K:Frag) (f:Addr) (c x:Str) (params:List Str) (rest:Str) (code:Value):Prop:=FnV K f (mOf c x).1 (mOf c x).2.1 params rest code
structure TopoFn (K:Frag) (T:Topo):Prop where
 ninit:∃c,FnM K T.ninit "_NodeInfo" "__init__" ["self","node"] c
 gni:∃c,FnM K T.gni "TopologicalSorter" "_get_nodeinfo" ["self","node"] c
 add:∃c,FnVM K T.add "TopologicalSorter" "add" ["self","node"] "predecessors" c
 prep:∃c,FnM K T.prep "TopologicalSorter" "prepare" ["self"] c
 ready:∃c,FnM K T.ready "TopologicalSorter" "get_ready" ["self"] c
 active:∃c,FnM K T.active "TopologicalSorter" "is_active" ["self"] c
 done:∃c,FnVM K T.done "TopologicalSorter" "done" ["self"] "nodes" c
 cyc:∃c,FnM K T.cyc "TopologicalSorter" "_find_cycle" ["self"] c
 node:nsIn K mainGlobals "_NodeInfo"=some (some (.ref T.N))
 out:∃t,nsIn K mainGlobals "_NODE_OUT"=some (some (.int (-1) t))
 dn:∃t,nsIn K mainGlobals "_NODE_DONE"=some (some (.int (-2) t))
theorem Callee.now (u:g.Up s){f:Value}(h:Callee g x f):Callee (g.now s u) x f:=by
 cases h with
 | fn h1 h2=>exact .fn h1 h2
 | bt h1 h2 h3=>exact .bt h1 h2 h3
 | ty h1 h2 h3=>exact .ty h1 h2 h3
noncomputable abbrev Rho.is (V:Rho) (x:Str) (d:D):Prop:=V.vars.lookup x=some (d,0)
theorem Rho.is_put:(V.put x d 0).is x d:=by
 show(putL x (d,0) V.vars).lookup x=_
 rw [bT]; simp
theorem Rho.is_ne {y:Str}{d':D}(h:V.is y d)(hne:(y==x)=false):(V.put x d' k).is y d:=by
 show(putL x (d',k) V.vars).lookup y=_
 rw [bT,hne]; exact h
theorem kE {names:List (Str×NameKind)}(h:V.sc=names)(hx:stOk ⟨names,[]⟩ x=true):stOk V x=true:=by
 unfold stOk at hx ⊢
 rw [h]; exact hx
theorem iI (σ:SS)(k:Int):(σ.touch k).nodes.length<=σ.nodes.length+1:=by
 unfold SS.touch
 split
 ·(exact Nat.le_add_right _ _)
 ·simp
theorem mZ (σ:SS)(k:Int)(f:Nd->Nd):(σ.upd k f).nodes.length=σ.nodes.length:=by unfold SS.upd; simp
theorem rQ (node:Int)(σ:SS)(p:Int):(σ.addPred node p).nodes.length<=σ.nodes.length+1:=by
 unfold SS.addPred; rw [mZ]; exact iI σ p
theorem kT {xs:List Int}{k:Int}{t:Tok}(x:Ints s.heap a xs)(hl:xs.length < cap)(q:∀h',Heap.SameBut a s.heap h'->Ints h' a (xs++[k])->Q .none { s with heap:=h' }) :
  wpAny g.M A (call (.builtin "list.append") [.ref a,.int k t]) Q E s:=by
 obtain⟨vs,n,h1,h2,h3⟩:=x
 obtain⟨ys,e1,e2⟩:=cG h3
 have hlen:=h3.length
 rw [Array.length_toList,List.length_map] at hlen
 refine append_at (prog:=g.prog) (w:=g.w) h1 (λh' hs he=>q h' hs ⟨_,_,he,by rw [Array.size_push]; grind,?_⟩) (Nat.le_trans h2 bI)
 rw [Array.toList_push,List.map_append]
 refine Rds.append ?_ (.cons .int .nil)
 rw [e1,<- e2]; exact bH ys
theorem pT {xs:List Int}{pl:Sem Bool}{Q:Value×List Value->Shared->Prop}(x:Ints s.heap a xs)(q:Q (.builtin "list.append",[.ref a]) s) :
  wpAny g.M A (getMethod (.ref a) "append" pl) Q E s:=by
 obtain⟨vs,n,h1,h2,h3⟩:=x
 exact getMethod_builtin (T:="list") ⟨_,h1,rfl⟩ PySem.F.plainAttrs_list PySem.F.slot_list_append PySem.F.type_list_append (λb hb=>⟨_,by cases hb; exact h1,rfl⟩) q
theorem upd_eq {i:Nat}{nd:Nd}{k:Int}{f f':Nd->Nd}(hid:(σ.nodes.map (·.id)).Nodup)(h2:σ.nodes[i]?=some nd)(hk:nd.id=k)(e:f nd=f' nd):σ.upd k f=σ.upd k f':=by
 unfold SS.upd
 congr 1
 refine List.map_congr_left λn hn=>?_
 by_cases h:n.id=k
 ·obtain⟨j,hj,rfl⟩:=List.mem_iff_getElem.mp hn
  have hj':σ.nodes[j]?=some σ.nodes[j]:=List.getElem?_eq_getElem hj
  have:=y7 hid hj' h2 (h.trans hk.symm)
  subst this
  rw [h2] at hj'
  rw [<- Option.some.inj hj',e]
 ·rw [if_neg (by simpa using h),if_neg (by simpa using h)]
theorem nd_nodup (h:l.all.Nodup){i:Nat}{a:NdA}(h1:l.ns[i]?=some a):a.info≠a.dct/\a.info≠a.suc/\a.dct≠a.suc:=by
 have:=(List.pairwise_flatMap.mp (List.nodup_append.mp (List.nodup_cons.mp (List.nodup_cons.mp (List.nodup_cons.mp h).2).2).2).2.1).1 a (List.mem_of_getElem? h1)
 have nd':a.all.Nodup:=this
 simp only [NdA.all,List.nodup_cons,List.mem_cons,List.not_mem_nil,or_false,not_or] at nd'
 exact⟨nd'.1.1,nd'.1.2,nd'.2.1⟩
theorem Srt.succ (S:Srt g T h l σ){i:Nat}{a:NdA}{nd:Nd}{xs:List Int}(h1:l.ns[i]?=some a)(h2:σ.nodes[i]?=some nd)(hs:Heap.SameBut a.suc h h')(hx:Ints h' a.suc xs):Srt g T h' l (σ.upd nd.id λn=>{ n with succ:=xs }):=by
 obtain⟨⟨t1,t2,e1⟩,e2,e3⟩:=S.nds i a nd h1 h2
 obtain⟨n1,n2,n3⟩:=nd_nodup S.nodup h1
 exact S.node (f:=λn=>{ n with succ:=xs }) (λzw=>rfl) h1 h2 ⟨⟨t1,t2,(hs.2 _ n2).trans e1⟩,(hs.2 _ n3).trans e2,hx⟩ λb o hb hn e=>(hs.2 b λz=>hn (by rw [z]; simp [NdA.all])).trans e
theorem oO {k:Int}(h:(σ.nodes.map (·.id)).Nodup):((σ.touch k).nodes.map (·.id)).Nodup:=by
 by_cases hh:σ.has k=true
 ·rw [j8 hh]; exact h
 ·rw [j7 hh,List.map_append,List.nodup_append]
  refine⟨h,by simp,λx hx y hy z=>hh ?_⟩
  obtain⟨n,hn,rfl⟩:=List.mem_map.mp hx
  obtain⟨i,hi,rfl⟩:=List.mem_iff_getElem.mp hn
  exact has_iff.mpr ⟨i,_,List.getElem?_eq_getElem hi,by simpa using z.trans (by simpa using hy)⟩
noncomputable def SS.sucLe (σ:SS) (m:Nat):Prop:=∀nd∈σ.nodes,nd.succ.length<=m
theorem iH {k:Int}{m:Nat}(h:σ.sucLe m):(σ.touch k).sucLe m:=by
 intro nd hnd
 unfold SS.touch at hnd
 split at hnd
 ·exact h nd hnd
 ·rcases List.mem_append.mp hnd with hnd | hnd
  ·exact h nd hnd
  ·rw [List.mem_singleton] at hnd; subst hnd; exact Nat.zero_le _
theorem qH {k:Int}{m m':Nat}{f:Nd->Nd}(h:σ.sucLe m)(hf:∀n,n.succ.length<=m->(f n).succ.length<=m')(hm:m<=m'):(σ.upd k f).sucLe m':=by
 intro nd hnd
 unfold SS.upd at hnd
 obtain⟨n,hn,rfl⟩:=List.mem_map.mp hnd
 split
 ·exact hf n (h n hn)
 ·exact Nat.le_trans (h n hn) hm
theorem lQ {k p:Int}{m:Nat}(h:σ.sucLe m):(σ.addPred k p).sucLe (m+1):=qH (iH h) (λn hn=>by simp; exact hn) (Nat.le_succ _)
theorem kY (k:Int):∀(ps:List Int) (σ:SS) (m:Nat),σ.sucLe m->(ps.foldl (SS.addPred k) σ).nodes.length<=σ.nodes.length+ps.length/\(ps.foldl (SS.addPred k) σ).sucLe (m+ps.length)
 | [],σ,m,h=>⟨Nat.le_refl _,h⟩
 | p::ps,σ,m,h=>by
  obtain⟨h1,h2⟩:=kY k ps (σ.addPred k p) (m+1) (lQ h)
  have:=rQ k σ p
  refine⟨by simp only [List.foldl_cons,List.length_cons]; grind,?_⟩
  simp only [List.foldl_cons,List.length_cons]
  rw [show m+(ps.length+1)=m+1+ps.length by (simp +arith)]
  exact h2
theorem Run.inter {W:Avoid}(r:Run c O M W V s):interactive c.env=false:=by unfold interactive; rw [r.act.eo.kind]; rfl
theorem add_code {k:Int}{t:Tok}{ws:List Value}{ps:List Int}(at_:At g (n+4) A O M l.W F s)(TK:TopoOk g.K T)(TF:TopoFn g.K T)(N:Names g)
  (S:Srt g T s.heap l σ) (hr:l.rd=[]) (rw':Rds O M s.heap 0 ws (ps.map .int)) (hb:σ.nodes.length+ps.length+1 < 1000) {m:Nat} (hsc:σ.sucLe m) (hm:m+ps.length < 1000)
  (q:∀(s':Shared) (l':LayS),Eff l.W F s l'.W s'->Srt g T s'.heap l' (σ.add k ps)->l.Le l'->R (.ok (.ret .none)) s') :
  codeAny g.M A (.call (.ref T.add) ⟨[.ref l.a,.int k t]++ws,[]⟩) R s:=by
 obtain⟨c,fk⟩:=TF.add
 obtain⟨c1,fgni⟩:=TF.gni
 obtain⟨c2,fni⟩:=TF.ninit
 have hc:cap=100000:=rfl
 refine code_fv (ds:=[objD l.a,.int k]) (es:=ps.map .int) at_ fk (.cons .obj (.cons .int .nil)) rw' rfl (by simp; grind) rfl rfl λenv P O' s2 r hc hk=>?_
 revert r
 (show let c:Fx:=_; Run c _ _ _ _ _->_)
 intro c r
 conv in (mOf _ _).1=>whnf
 have S2:Srt g T s2.heap l σ:=S.keeps λb o zw=>hk b o
 refine wpAny_execs_cons (wpAny_If (wpAny_isTrue_Compare1 (Attribute_Name_ (r.name (d:=objD l.a) (k:=0) rfl (by decide) λv rv=>?_)) rfl))
 have:=aU rv; subst this
 refine kW S2 r.now TK ?_
 rw [hr]
 have r:=r.toks (s2.toks+1)
 refine r.e0 fX λv' s3 k3 rv' r=>dC (g:=g) (n:=n) O' No _ s3 _ _ _ _ (r.rm.le (by show n<=n+3; (exact Nat.le_add_right _ _))) (Rd.none (k:=0)) rv' (wpAny_truthy_bool ?_)
 refine wpAny_execs_nil ?_
 ((show let Q0:=_; let E0:=_; wpAny _ _ _ Q0 E0 _); intro Q0 E0)
 have S3:Srt g T s3.heap l σ:=S2.keeps λb o zw=>aA k3 b o
 refine wpAny_execs_cons (r.assignS rfl (MethodCall_ (r.name (d:=objD l.a) (k:=0) rfl (by decide) λv rv=>?_)))
 have:=aU rv; subst this
 refine gU S3 r.now TK TK.mgni (by decide) (callWith_K r.now TK.mgni.keep (wpAny_items_cons (r.name (d:=.int k) (k:=0) rfl (by decide) λv rv=>wpAny_items_nil ⟨r.now,?_⟩) rfl))
 obtain⟨u,rfl⟩:=aH rv
 refine wpAny_call (sW (n:=n) r.at TK fgni fni TF.node S3 (by grind) λs4 l4 i a nd ef S4 le h1 h2 hid=>?_)
 have r:=r.effE ef
 refine r.store (d:=objD a.info) rfl .obj λs5 c5 r5=>?_
 have S5:Srt g T s5.heap l4 (σ.touch k):=S4.keeps (r.same c5)
 refine wpAny_execs_cons (wpAny_AugAssign_AttributeAny (r5.name (d:=objD a.info) (k:=0) rfl (by decide) λv rv=>?_))
 have:=aU rv; subst this
 refine get_np (S5.nds i a nd h1 h2) r5.now TK λtk=>?_
 have r5:=r5.toks (s5.toks+1)
 refine r5.e0 (lC (ds:=[.tuple (ps.map .int)]) (ks:=0) (N.len.now _) rfl (by decide) rfl (cQ (bE rfl rfl) dX rfl) vV) λv s6 k6 rv r6=>?_
 ((show let Q0:=_; wpAny _ _ _ Q0 _ _); intro Q0)
 refine aug_ok (g:=g) (O:=No) (M:=No) (ka:=0) (kb:=0) (a:=.int nd.np) (b:=.int ((ps.map PyData.int).length)) rfl .int (by obtain⟨u,rfl⟩:=aH rv; exact .int) λv s7 k7 rv=>?_
 obtain⟨u7,rfl⟩:=aH rv
 have r7:=r6.keeps k7
 have S7:Srt g T s7.heap l4 (σ.touch k):=S5.keeps λb o zw e=>aA k7 _ _ (aA k6 _ _ e)
 refine set_np S7 r7.now TK h1 h2 λs8 cx8 S8=>?_
 have r8:=r7.eff (W':=l4.W) (cx8.mono (λzw h=>h) No.le) (λzw h=>h) (λzw h=>.inl h) S8.al
 rw [hid] at S8
 have e8:(σ.touch k).upd k (λn=>{ n with np:=nd.np+((ps.map PyData.int).length:Int) })=(σ.touch k).upd k (λn=>{ n with np:=n.np+(ps.length:Int) }):=upd_eq (oO S.ids) h2 hid (by simp)
 rw [e8] at S8
 generalize hσ1:(σ.touch k).upd k (λn=>{ n with np:=n.np+(ps.length:Int) })=σ1 at S8
 revert S8
 revert hσ1
 revert σ1
 refine id ?_
 intro σ1 hσ1 S8
 have len1:σ1.nodes.length<=σ.nodes.length+1:=by rw [<- hσ1,mZ]; exact iI σ k
 refine wpAny_execs_cons (r8.forL (items:=ps.map .int) (xs:=["pred"]) rfl rfl (iter_tup (bE rfl rfl)) (λi W V' s'=>∃l',W=l'.W/\Srt g T s'.heap l' ((ps.take i).foldl (SS.addPred k) σ1)/\l4.Le l'/\(∀b,l.W b->l'.W b)/\V'.sc=(mOf "TopologicalSorter" "add").2.1/\V'.is "self" (objD l.a)/\V'.is "node" (.int k)) (λzw zw zw=>False) (λzw zw zw zw zw=>False)
  ?_ ⟨l4,rfl,S8,.refl,ef.up,rfl,rfl,rfl⟩ ?_ ?_ ?_ (λzw zw zw zw zw zw h=>h.elim) (λzw zw zw zw zw zw zw h=>h.elim))
 ·intro i W V' s s' hJ k
  obtain⟨l',hW,S,a⟩:=hJ
  exact⟨l',hW,S.keeps λb o hb=>k b o (by rw [hW]; exact hb),a⟩
 ·rintro i d W' V' s' hd ⟨l',hW,S,le',hup,hsc',hself,hnode⟩
  exact⟨by simpa using kE hsc' (x:="pred") rfl,_,rfl⟩
 ·intro Z O0 t' i d O' W' V' V1 s' E' hd hbd hJ r'
  revert r'
  (show let c0:Fx:=_; Run c0 _ _ _ _ _->_)
  intro c0 r'
  ((show let Q0:=_; wpAny _ _ _ Q0 _ _); intro Q0)
  refine wp_q λQ' hQ=>?_
  obtain⟨l',hW,S',le',hup,hsc',hself,hnode⟩:=hJ
  subst hW
  obtain⟨pr,hpr,rfl⟩:∃pr,ps[i]?=some pr/\d=.int pr:=by
   rw [List.getElem?_map,Option.map_eq_some_iff] at hd
   obtain⟨pr,h,e⟩:=hd
   exact⟨pr,h,e.symm⟩
  have hbd:V1=V'.put "pred" (.int pr) 0:=(Option.some.inj hbd).symm
  subst hbd
  have hself:=Rho.is_ne (x:="pred") (d':=.int pr) (k:=0) hself rfl
  have hnode:=Rho.is_ne (x:="pred") (d':=.int pr) (k:=0) hnode rfl
  have hi:i < ps.length:=(List.getElem?_eq_some_iff.mp hpr).1
  obtain⟨bl,bs⟩:=kY k (ps.take i) σ1 m (hσ1 ▸ qH (iH hsc) (λn hn=>hn) (Nat.le_refl _))
  rw [List.length_take,Nat.min_eq_left (Nat.le_of_lt hi)] at bl bs
  generalize hσi:(ps.take i).foldl (SS.addPred k) σ1=σi at S' bl bs
  revert bs
  revert bl
  revert S'
  revert hσi
  revert σi
  refine id ?_
  intro σi hσi S' bl bs
  have hle:l'.a=l.a:=le'.a.trans le.a
  refine wpAny_execs_cons (r'.assignS rfl (MethodCall_ (r'.name hself (by decide) λv rv=>?_)))
  have:=aU rv; subst this
  rw [<- hle]
  refine gU S' r'.now TK TK.mgni (by decide) (callWith_K r'.now TK.mgni.keep (wpAny_items_cons (r'.name Rho.is_put (by decide) λv rv=>wpAny_items_nil ⟨r'.now,?_⟩) rfl))
  obtain⟨u,rfl⟩:=aH rv
  refine wpAny_call (sW (n:=n) r'.at TK fgni fni TF.node S' (by grind) λs9 l9 j a9 nd9 ef9 S9 le9 g1 g2 hid9=>?_)
  have r9:=r'.effE ef9
  refine r9.store (d:=objD a9.info) (kE (names:=(mOf "TopologicalSorter" "add").2.1) hsc' rfl) .obj λs10 c10 r10=>?_
  have S10:=S9.keeps (h':=s10.heap) (r9.same c10)
  have N10:=S10.nds j a9 nd9 g1 g2
  refine wpAny_execs_cons (wpAny_Expr_any (prog:=g.prog) (w:=g.w) (MethodCall_ (Attribute_Name_ (r10.name (d:=objD a9.info) (k:=0) Rho.is_put (by decide) λv rv=>?_))) r10.inter (aJ rfl _ _ _))
  have:=aU rv; subst this
  refine zA N10 r10.now TK (pT (g:=g) N10.2.2 (callWith_builtin (aL rfl) (aK rfl (wpAny_items_cons ((r10.toks _).name (Rho.is_ne hnode rfl) (by decide) λv rv=>wpAny_items_nil ?_) rfl))))
  obtain⟨u,rfl⟩:=aH rv
  refine kT (g:=g) N10.2.2 (by have:=iH (k:=pr) bs nd9 (List.mem_of_getElem? g2); grind) λh11 hs11 hx11=>wpAny_execs_nil ?_
  have S11:=S10.succ g1 g2 hs11 hx11
  have r11:=(r10.toks (s10.toks+1)).eff (W':=l9.W) (s':={ s10 with heap:=h11,toks:=s10.toks+1 }) ((aY (W:=l9.W) (s:={ s10 with toks:=s10.toks+1 }) hs11 (pO g1 (by simp [NdA.all])) rfl).mono (λzw h=>h) No.le) (λzw h=>h) (λzw h=>.inl h) S11.al
  refine hQ _ _ ⟨_,_,_,r11,l9,rfl,?_,le'.trans le9,λb hb=>ef9.up b (hup b hb),hsc',Rho.is_ne hself rfl,Rho.is_ne hnode rfl⟩
  have e:(ps.take (i+1)).foldl (SS.addPred k) σ1=(σi.touch pr).upd nd9.id (λn=>{ n with succ:=nd9.succ++[k] }):=by
   rw [List.take_add_one,hpr,List.foldl_append,hσi]
   show SS.addPred k σi pr=_
   unfold SS.addPred
   rw [hid9]
   exact upd_eq (oO S'.ids) g2 hid9 rfl
  rw [e]; exact S11
 ·rintro O' W' V' s' - r' ⟨l',hW,S',le',hup,_⟩
  subst hW
  refine wpAny_execs_nil (q s' l' (r'.eff_out hup) ?_ (le.trans le'))
  have e:(ps.take (ps.map PyData.int).length).foldl (SS.addPred k) σ1=σ.add k ps:=by
   unfold SS.add
   rw [hσ1,List.length_map,List.take_length]
  rw [<- e]; exact S'
structure FnD (K:Frag) (f:Addr) (body:List Stmt) (names:List (Str×NameKind)) (params:List Str) (given:Nat) (dflt:List Value) (code:Value):Prop where
 ex:∃c dd fd sl,K.lookup f=some ⟨c,dd,.func fd,sl⟩/\FnData fd body/\fd.closure=[]/\mR K fd.code fd.qualname=true/\fd.scope.names=names/\fd.code=code/\(∀vs:List Value,vs.length=given->∀S,peek K S (bindArgs fd ⟨vs,[]⟩)=some (params.zip (vs++dflt)))
 nm:c9 names []=true
theorem zY {W:Avoid}{f:Addr}{body:List Stmt}{names:List (Str×NameKind)}{params:List Str}{given:Nat}{dflt:List Value}{code:Value}{vs:List Value}{es:List D}
  (at_:At g (n+1) A O M W F s) (fk:FnD g.K f body names params given dflt code) (rs:Rds O M s.heap 0 vs ds) (re:Rds O M s.heap 0 dflt es) (hl:ds.length=given) (hps:params.all (stOk ⟨names,[]⟩)=true) (hρ:bN ⟨names,[]⟩ params (ds++es)=some V)
  (hbody:∀(env:Env) (P O':Avoid) (s2:Shared),Run ⟨g,n,A,env,P,O,M,W,F,s,No,O',s2⟩ O' No W V s2->env.code=code->(∀b o,s.heap.get? b=some o->s2.heap.get? b=some o) →
   wpAny g.M (A.deeper env) (execs body env) (λf s'=>R (.ok (.ret (retOf f))) s') (tO g A env R) s2) :
  codeAny g.M A (.call (.ref f) ⟨vs,[]⟩) R s:=by
 obtain⟨⟨c,dd,fd,sl,hK,FD,hcl,hcd,hnm,hco,hb⟩,nm⟩:=fk
 subst hnm
 subst hco
 refine rK (clv:=[]) at_ (at_.up _ _ (g.X _ _ hK)) rfl FD ((bL g.X hcd).keeps at_.up) ?_ (by rw [hcl]; exact j0) (λx b h=>by rw [hcl] at h; cases h) nm hps hρ hbody
 exact kp_binds (g.X.keeps at_.up) (hb vs (by rw [rs.length,hl])) g.M _ _ _ ⟨vs++dflt,rfl,aD s,rs.append re⟩
theorem sD (u:g.Up s):(s.heap.objs.size==sysModules)=false:=by
 have hg:@LT.lt Nat _ 3 s.heap.objs.size:=(g.g.keeps u).lt
 rw [beq_eq_false_iff_ne]
 intro e
 have e:s.heap.objs.size=(1:Nat):=e
 grind
noncomputable abbrev FnDM (K:Frag) (f:Addr) (c x:Str) (params:List Str) (given:Nat) (dflt:List Value) (code:Value):Prop:=FnD K f (mOf c x).1 (mOf c x).2.1 params given dflt code
theorem yZ {x dx:Addr}{code:Value}(at_:At g (n+1) A O M (λb=>b=x\/b=dx) F s)(TK:TopoOk g.K T)(fk:FnDM g.K T.init "TopologicalSorter" "__init__" ["self","graph"] 1 [.none] code)
  (hx:s.heap.get? x=some (instObj T.C dx)) (hd:s.heap.get? dx=some (dictOf [] 0)) (hne:x≠dx)
  (q:∀s' m,Cx (λb=>b=x\/b=dx) F s s'->Srt g T s'.heap ⟨x,dx,m,[],[]⟩ SS.new->s.heap.get? m=none->R (.ok (.ret .none)) s'):codeAny g.M A (.call (.ref T.init) ⟨[.ref x],[]⟩) R s:=by
 refine zY (ds:=[objD x]) (es:=[.none]) at_ fk (.cons .obj .nil) (.cons .none .nil) rfl rfl rfl λenv P O' s2 r hc hk=>?_
 revert r
 (show let c:Fx:=_; Run c _ _ _ _ _->_)
 intro c r
 ((show let Q0:=_; wpAny _ _ _ Q0 _ _); intro Q0)
 conv in (mOf _ _).1=>whnf
 have hx2:=hk _ _ hx
 have hd2:=hk _ _ hd
 have nn:=λb=>r.none0 (b:=b)
 have al:∀(s':Shared),(∃o,s'.heap.get? x=some o)->(∃o,s'.heap.get? dx=some o)->Alloc (λb=>b=x\/b=dx) s':=λs' h1 h2 b hb=>by
  rcases hb with rfl | rfl
  ·exact h1
  ·exact h2
 refine wpAny_execs_cons (plainObj_wpAny_Assign_Attribute (wpAny_Dict_empty ?_) (aJ rfl _ _ _))
 have hm0:s.heap.get? s2.heap.objs.size=none:=nn _ (bZ (aD s2))
 have hsys:=sD r.act.up
 generalize hm:s2.heap.objs.size=m at hm0 hsys ⊢
 have k3:Keeps s2 { s2 with heap:=s2.heap.push { cls:=.type "dict",data:=.dict #[] } }:=aI s2 _ _
 have hm3:({ s2 with heap:=s2.heap.push { cls:=.type "dict",data:=.dict #[] } }:Shared).heap.DictOf (intKind g.prog g.w) m []:=by rw [<- hm]; exact Heap.DictOf.new _
 have r3:=r.keeps k3
 have hx3:=aA k3 _ _ hx2
 have hd3:=aA k3 _ _ hd2
 generalize ({ s2 with heap:=s2.heap.push { cls:=.type "dict",data:=.dict #[] } }:Shared)=s3 at k3 hm3 r3 hx3 hd3 ⊢
 revert hd3
 revert hx3
 revert r3
 revert hm3
 revert k3
 revert s3
 refine id ?_
 intro s3 k3 hm3 r3 hx3 hd3
 ((show let Q0:=_; wpAny _ _ _ Q0 _ _); intro Q0)
 have hmx:m≠x:=λz=>by rw [z,hx] at hm0; cases hm0
 have hmd:m≠dx:=λz=>by rw [z,hd] at hm0; cases hm0
 refine r3.name (d:=objD x) (k:=0) rfl (by decide) λv rv=>?_
 ((show let Q0:=_; wpAny _ _ _ Q0 _ _); intro Q0)
 have:=aU rv; subst this
 refine dN (es:=[]) (n:=0) (es':=[⟨PyData.keyHash g.w.params "_node2info",.str "_node2info" (s3.toks+1),.ref m⟩]) r3.now ⟨hx3,rfl,rfl,hd3⟩ rfl TK.c.set TK.c.over TK.a1.taker TK.dict rfl rfl (show 1<=1000 by decide) λh4 hs4 ho4=>?_
 ((show let Q0:=_; wpAny _ _ _ Q0 _ _); intro Q0)
 have hx4:=(hs4.2 x hne).trans hx3
 have hm4:=hm3.sameBut hs4 hmd
 have r4:=r3.eff (s':={ s3 with heap:=h4,toks:=s3.toks+2 }) ((aY hs4 (.inr rfl) rfl).mono (λzw h=>h) No.le) (λzw h=>h) (λzw h=>.inl h) (al _ ⟨_,hx4⟩ ⟨_,ho4⟩)
 refine wpAny_execs_cons (plainObj_wpAny_Assign_Attribute (r4.e0 fX λv s5 k5 rv r5=>r5.name (d:=objD x) (k:=0) rfl (by decide) λv' rv'=>?_) (aJ rfl _ _ _))
 have:=kH rv; subst this
 have:=aU rv'; subst this
 refine dN (es':=[⟨PyData.keyHash g.w.params "_node2info",.str "_node2info" (s3.toks+1),.ref m⟩,⟨PyData.keyHash g.w.params "_ready_nodes",.str "_ready_nodes" (s5.toks+1),.none⟩]) r5.now ⟨aA k5 _ _ hx4,rfl,rfl,aA k5 _ _ ho4⟩ rfl TK.c.set TK.c.over TK.a2.taker TK.dict rfl rfl (show 2<=1000 by decide) λh6 hs6 ho6=>?_
 ((show let Q0:=_; wpAny _ _ _ Q0 _ _); intro Q0)
 have hx6:=(hs6.2 x hne).trans (aA k5 _ _ hx4)
 have hm6:=(hm4.keep (aA k5)).sameBut hs6 hmd
 have r6:=r5.eff (s':={ s5 with heap:=h6,toks:=s5.toks+2 }) ((aY hs6 (.inr rfl) rfl).mono (λzw h=>h) No.le) (λzw h=>h) (λzw h=>.inl h) (al _ ⟨_,hx6⟩ ⟨_,ho6⟩)
 refine wpAny_execs_cons (plainObj_wpAny_Assign_Attribute (r6.e0 eK λv s7 k7 rv r7=>r7.name (d:=objD x) (k:=0) rfl (by decide) λv' rv'=>?_) (aJ rfl _ _ _))
 obtain⟨t1,rfl⟩:=aH rv
 have:=aU rv'; subst this
 refine dN (es':=[⟨PyData.keyHash g.w.params "_node2info",.str "_node2info" (s3.toks+1),.ref m⟩,⟨PyData.keyHash g.w.params "_ready_nodes",.str "_ready_nodes" (s5.toks+1),.none⟩,⟨PyData.keyHash g.w.params "_npassedout",.str "_npassedout" (s7.toks+1),.int 0 t1⟩]) r7.now ⟨aA k7 _ _ hx6,rfl,rfl,aA k7 _ _ ho6⟩ rfl TK.c.set TK.c.over TK.a3.taker TK.dict rfl rfl (show 3<=1000 by decide) λh8 hs8 ho8=>?_
 ((show let Q0:=_; wpAny _ _ _ Q0 _ _); intro Q0)
 have hx8:=(hs8.2 x hne).trans (aA k7 _ _ hx6)
 have hm8:=(hm6.keep (aA k7)).sameBut hs8 hmd
 have r8:=r7.eff (s':={ s7 with heap:=h8,toks:=s7.toks+2 }) ((aY hs8 (.inr rfl) rfl).mono (λzw h=>h) No.le) (λzw h=>h) (λzw h=>.inl h) (al _ ⟨_,hx8⟩ ⟨_,ho8⟩)
 refine wpAny_execs_cons (plainObj_wpAny_Assign_Attribute (r8.e0 eK λv s9 k9 rv r9=>r9.name (d:=objD x) (k:=0) rfl (by decide) λv' rv'=>?_) (aJ rfl _ _ _))
 obtain⟨t2,rfl⟩:=aH rv
 have:=aU rv'; subst this
 refine dN (es':=iA g.w (s3.toks+1) (s5.toks+1) (s7.toks+1) (s9.toks+1) m .none 0 0 t1 t2) r9.now ⟨aA k9 _ _ hx8,rfl,rfl,aA k9 _ _ ho8⟩ rfl TK.c.set TK.c.over TK.a4.taker TK.dict rfl rfl (show 4<=1000 by decide) λh_1 hs1 ho1=>?_
 ((show let Q0:=_; wpAny _ _ _ Q0 _ _); intro Q0)
 have hx1:=(hs1.2 x hne).trans (aA k9 _ _ hx8)
 have hm1:=(hm8.keep (aA k9)).sameBut hs1 hmd
 have r1:=r9.eff (s':={ s9 with heap:=h_1,toks:=s9.toks+2 }) ((aY hs1 (.inr rfl) rfl).mono (λzw h=>h) No.le) (λzw h=>h) (λzw h=>.inl h) (al _ ⟨_,hx1⟩ ⟨_,ho1⟩)
 have S:Srt g T h_1 ⟨x,dx,m,[],[]⟩ SS.new:=⟨hx1,⟨_,_,_,_,_,_,_,ho1⟩,hm1,hsys,rdy0,rfl,λi a nd h=>by simp at h,by
  simp only [LayS.all,List.flatMap_nil,List.append_nil,List.nodup_cons,List.mem_cons,List.not_mem_nil,or_false,not_or,not_false_eq_true,List.nodup_nil,and_true]
  exact⟨⟨hne,λz=>hmx z.symm⟩,λz=>hmd z.symm⟩,by simp [SS.new],by simp [SS.new]⟩
 refine wpAny_execs_cons (wpAny_If (wpAny_isTrue_Compare1 (r1.name (d:=.none) (k:=0) rfl (by decide) λv rv=>r1.e0 fX λv' s' k' rv' r'=>dC (g:=g) (n:=n) _ No _ s' _ _ _ _ (r'.rm) (rv.keeps (aA k')) rv' (wpAny_truthy_bool ?_)) rfl))
 exact wpAny_execs_nil (wpAny_execs_nil (q s' m r'.cx (Srt.keeps S λb o zw=>aA k' b o) hm0))
theorem uA {W:Avoid}{code:Value}(at_:At g (n+2) A O M W F s)(TK:TopoOk g.K T)(fk:FnDM g.K T.init "TopologicalSorter" "__init__" ["self","graph"] 1 [.none] code)
  (q:∀s' l,Cx No F s s'->Srt g T s'.heap l SS.new->l.rd=[]->(∀b∈l.all,s.heap.get? b=none)->R (.ok (.ret (.ref l.a))) s'):codeAny g.M A (.call (.ref T.C) ⟨[],[]⟩) R s:=by
 have X:=g.X.keeps at_.up
 refine yH X TK.c.makes TK.minit TK.tinit ?_
 have hsz:(s.heap.push emptyDict).objs.size=s.heap.objs.size+1:=Heap.size_push ..
 have k:Keeps s { s with heap:=(s.heap.push emptyDict).push (instObj T.C s.heap.objs.size) }:=⟨_,s.toks,rfl,λb o e=>Heap.get?_push_of_some _ (Heap.get?_push_of_some _ e)⟩
 have hx:((s.heap.push emptyDict).push (instObj T.C s.heap.objs.size)).get? (s.heap.objs.size+1)=some (instObj T.C s.heap.objs.size):=by rw [<- hsz]; exact Heap.get?_push_size _ rfl
 have hd:((s.heap.push emptyDict).push (instObj T.C s.heap.objs.size)).get? s.heap.objs.size=some emptyDict:=Heap.get?_push_of_some _ (Heap.get?_push_size _ rfl)
 have new:∀b,(b=s.heap.objs.size+1\/b=s.heap.objs.size)->s.heap.get? b=none:=λb hb=>cJ (aD s) (by
  rcases hb with rfl | rfl
  ·exact Nat.le_succ _
  ·exact Nat.le_refl _)
 have a':=(at_.push k (N:=λb=>b=s.heap.objs.size+1\/b=s.heap.objs.size) new λb hb=>by
  rcases hb with rfl | rfl
  ·exact⟨_,hx⟩
  ·exact⟨_,hd⟩).make (C:=T.C) (rest:=[])
 refine yZ a' TK fk hx hd (Nat.succ_ne_self _) λs' m cx S hm=>⟨rfl,?_⟩
 have hm0:s.heap.get? m=none:=by
  cases e:s.heap.get? m with
  | none=>rfl
  | some o=>have:=aA k _ _ e; rw [hm] at this; cases this
 refine q s' ⟨s.heap.objs.size+1,s.heap.objs.size,m,[],[]⟩ ((Cx.of_keeps (W:=No) (F:=F) k).step cx (λb hb=>.inr (new b hb)) λzw h=>.inl h) S rfl λb hb=>?_
 simp only [LayS.all,List.flatMap_nil,List.append_nil,List.mem_cons,List.not_mem_nil,or_false] at hb
 rcases hb with rfl | rfl | rfl
 ·exact new _ (.inl rfl)
 ·exact new _ (.inr rfl)
 ·exact hm0
section
theorem Srt.now (S:Srt g T h l σ)(u:g.Up s):Srt (g.now s u) T h l σ:=⟨S.inst,S.dict,S.n2i,S.sys,S.rdy,S.len,S.nds,S.nodup,S.ids,S.big⟩
section
variable {p':Pos}
theorem ev_n2i (S:Srt g T g.h l σ)(TK:TopoOk g.K T)(hv:V.is x (objD l.a))(hd:(x==("__debug__":Str))=false):EvS g n V (.Attribute (.Name x p) "_node2info" p') (objD l.m) k:=λO M env A s E u rm aO aM eo =>
 Attribute_Name_ ((bE hv hd).use u rm aO aM eo λv s_1 k1 r1 u1 o1 m1 e1=>by
  have:=aU r1; subst this
  exact nU (S.keeps λb o zw=>u1 b o) (g.X.keeps u1) TK ⟨aB k1 (aG _ _),.obj⟩)
end
theorem RdyAt.one {rd:List Addr}{xs:List Int}(x:RdyAt h rd (some xs)):∃r,rd=[r]/\Ints h r xs:=by
 rcases x with x | x
 ·exact no x.2.symm
 ·obtain⟨r,ys,e,e',i⟩:=x
  cases e'
  exact⟨r,e,i⟩
end
section
section
variable {p':Pos}
theorem zK {i:Expr}{key:Int}{j:Nat}{a:NdA}{nd:Nd}{ke ki:Nat}(S:Srt g T g.h l σ)(ev:EvS g n V e (objD l.m) ke)(ei:EvS g n V i (.int key) ki)(hs:SubS.notSlice i=true)(h1:l.ns[j]?=some a)(h2:σ.nodes[j]?=some nd)(hid:nd.id=key):EvS g n V (.Subscript e i pos) (objD a.info) k:=by
 intro O M env A s E u rm aO aM eo
 ((show let Q0:=_; wpAny _ _ _ Q0 _ _); intro Q0)
 refine Subscript_ (ev.use u rm aO aM eo λva s_1 k1 r1 u1 o1 m1 e1=>ei.use u1 rm o1 m1 e1 λvb s2 k2 r2 u2 o2 m2 e2=>?_)
 ((show let Q0:=_; wpAny _ _ _ Q0 _ _); intro Q0)
 have:=aU r1; subst this
 obtain⟨t,rfl⟩:=aH r2
 have hm:s2.heap.DictOf (intKind g.prog g.w) l.m (cK l.ns σ.nodes):=S.n2i.keep u2
 have hv:valueAt (cK l.ns σ.nodes) key=some (.ref a.info):=by rw [<- hid]; exact rR S.len S.ids h1 h2
 exact tail_any (T:="dict") hm.typeIs slot_dict_getitem.lookup (wpAny_getItem_of (intKind_is g.prog g.w key t) hm.mapOf hv ⟨aB k1 (aB k2 (aG _ _)),.obj⟩) (aS hs _ _)
end
theorem vD {xs:List Int}(x:Ints s.heap a xs)(q:∀h',Heap.SameBut a s.heap h'->Ints h' a []->Q .none { s with heap:=h' }) :
  wpAny g.M A (call (.builtin "list.clear") [.ref a]) Q E s:=by
 obtain⟨vs,n,h1,h2,h3⟩:=x
 refine call_meets PySem.F.slot_list_clear ⟨_,h1,rfl⟩ PySem.F.entry_list_clear (PySem.F.args_list_clear_1 _) (AutoSeq1.list_clear_list_0 a vs n (Nat.le_trans h2 bI)) ⟨h1,q _ (Heap.SameBut.update ..) ⟨#[],_,IsL.update h1 (λzw=>#[]),Nat.zero_le _,.nil⟩⟩
theorem rD {xs:List Int}{pl:Sem Bool}{Q:Value×List Value->Shared->Prop}(x:Ints s.heap a xs)(q:Q (.builtin "list.clear",[.ref a]) s) :
  wpAny g.M A (getMethod (.ref a) "clear" pl) Q E s:=by
 obtain⟨vs,n,h1,h2,h3⟩:=x
 exact getMethod_builtin (T:="list") ⟨_,h1,rfl⟩ PySem.F.plainAttrs_list PySem.F.slot_list_clear PySem.F.type_list_clear (λb hb=>⟨_,by cases hb; exact h1,rfl⟩) q
theorem Srt.at (S:Srt g T h l σ){k:Int}(hh:σ.has k=true):∃(i:Nat) (a:NdA) (nd:Nd),l.ns[i]?=some a/\σ.nodes[i]?=some nd/\nd.id=k:=by
 obtain⟨i,nd,h2,hid⟩:=has_iff.mp hh
 exact⟨i,_,nd,List.getElem?_eq_getElem (by rw [S.len]; exact(List.getElem?_eq_some_iff.mp h2).1),h2,hid⟩
end
theorem find_nd {nodes:List Nd}(h:(nodes.map (·.id)).Nodup){j:Nat}{nd:Nd}(h2:nodes[j]?=some nd):nodes.find? (λn=>n.id==nd.id)=some nd:=by
 induction nodes generalizing j with
 | nil=>simp at h2
 | cons x xs ih =>
  simp only [List.map_cons,List.nodup_cons] at h
  rw [List.find?_cons]
  cases j with
  | zero=>simp only [List.getElem?_cons_zero,Option.some.injEq] at h2; subst h2; simp
  | succ j =>
   simp only [List.getElem?_cons_succ] at h2
   have hne:x.id≠nd.id:=λz=>h.1 (by rw [z]; exact List.mem_map.mpr ⟨nd,List.mem_of_getElem? h2,rfl⟩)
   rw [show(x.id==nd.id)=false by simpa using hne]
   exact ih h.2 h2
theorem suc_of (h:(σ.nodes.map (·.id)).Nodup){j:Nat}{nd:Nd}(h2:σ.nodes[j]?=some nd):σ.succOf nd.id=nd.succ:=by unfold SS.succOf; rw [find_nd h h2]; rfl
theorem ev_np {a:NdA}{nd:Nd}{p':Pos}(N:NodeAt T g.h a nd)(TK:TopoOk g.K T)(hv:V.is x (objD a.info))(hd:(x==("__debug__":Str))=false):EvS g n V (.Attribute (.Name x p) "npredecessors" p') (.int nd.np) k:=λO M env A s E u rm aO aM eo =>
 Attribute_Name_ ((bE hv hd).use u rm aO aM eo λv s_1 k1 r1 u1 o1 m1 e1=>by
  have:=aU r1; subst this
  exact get_np (N.keeps λb o zw=>u1 b o) (g.X.keeps u1) TK λt=>⟨aB k1 (aG _ _),.int⟩)
section
noncomputable def dU (it:Addr):Obj:={ cls:=.type "method-wrapper",data:=.fields #[.builtin "list_iterator.__next__",.ref it] }
theorem slot_wget:Slot "wrapper_descriptor" "__get__" "wrapper_descriptor.__get__" :=
 .of (owner:="wrapper_descriptor") (n:="__get__") (by rw [typeLookup_type,builtinLookup_eq_fast]; kernel_rfl) (by decide +kernel) (by decide +kernel) (by decide +kernel)
  (by first | exact .inl (by decide +kernel) | exact .inr (by decide +kernel)) (by rw [isSubtype_type]; kernel_rfl)
theorem vJ:entryFor table "wrapper_descriptor.__get__"=some Builtin.«wrapper_descriptor.__get__»:=entryFor_of_tree (by kernel_rfl)
theorem AF (a b c:Value):argsOk "wrapper_descriptor.__get__" ⟨[a,b,c],[]⟩:=by unfold argsOk; kernel_rfl
theorem oM:typeOf (.builtin "list_iterator.__next__")=pure (.type "wrapper_descriptor"):=by show builtinType _=_; rw [builtinType_eq_fast]; kernel_rfl
theorem slot_liga:Slot "list_iterator" "__getattribute__" "object.__getattribute__" :=
 .of (owner:="object") (n:="__getattribute__") (by rw [typeLookup_type,builtinLookup_eq_fast]; kernel_rfl) (by decide +kernel) (by decide +kernel) (by decide +kernel)
  (by first | exact .inl (by decide +kernel) | exact .inr (by decide +kernel)) (by rw [isSubtype_type]; kernel_rfl)
theorem zN:entryFor table "object.__getattribute__"=some Builtin.«object.__getattribute__»:=entryFor_of_tree (by kernel_rfl)
theorem args_oga (a b:Value):argsOk "object.__getattribute__" ⟨[a,b],[]⟩:=by unfold argsOk; kernel_rfl
theorem sub_li:isSubtype (.type "list_iterator") (.type "list_iterator")=pure true:=by rw [isSubtype_type]; kernel_rfl
theorem wset:typeLookup (.type "wrapper_descriptor") "__set__"=pure none:=by rw [typeLookup_type,builtinLookup_eq_fast]; kernel_rfl
theorem wdel:typeLookup (.type "wrapper_descriptor") "__delete__"=pure none:=by rw [typeLookup_type,builtinLookup_eq_fast]; kernel_rfl
noncomputable def dG (l:Addr) (i:Nat):Obj:={ cls:=.type "list_iterator",dict:=none,data:=.fields #[.ref l,.int i 0],slots:=#[] }
section
open PySem.Builtin PySem.Builtin.ObjectAttr
variable {prog:Program} {w:World} {it l:Addr} {i:Nat}
theorem zC {Q:Found->Shared->Prop}(hx:s.heap.get? it=some (dG l i))(q:Q (.bind (.builtin "wrapper_descriptor.__get__") (.builtin "list_iterator.__next__")) s):wpAny (model prog w) A (find (.ref it) (.type "list_iterator") "__next__") Q E s:=by
 obtain⟨hp,g,d,tk,os⟩:=s
 have f1:=slot_listiter_next.lookup
 have f2:=oM
 have f3:=slot_wget.lookup
 have hT:(⟨hp,g,d,tk,os⟩:Shared).TypeIs (.ref it) "list_iterator":=⟨_,hx,rfl⟩
 have f4:=wset
 have f5:=wdel
 unfold find getOf specialOf
 repeat (any_goals (first | assumption | wp_step))
theorem run_wget {P:Fin->Shared->Prop}(hx:s.heap.get? it=some (dG l i))(h:P (.done (.ret (.ref s.heap.objs.size))) { s with heap:=s.heap.push (dU it) }) :
  wpAny (model prog w) A (Builtin.«wrapper_descriptor.__get__» ⟨[.builtin "list_iterator.__next__",.ref it,.type "list_iterator"],[]⟩) P E s:=by
 obtain⟨hp,g,d,tk,os⟩:=s
 have f1:=sub_li
 have hT:(⟨hp,g,d,tk,os⟩:Shared).TypeIs (.ref it) "list_iterator":=⟨_,hx,rfl⟩
 have e:".".intercalate (("list_iterator.__next__".cutAt '.').dropLast)="list_iterator":=by decide +kernel
 unfold Builtin.«wrapper_descriptor.__get__»
 repeat (any_goals (first | assumption | wp_step))
 rw [e,f1]
 refine wpAny_pure ?_
 rw [if_neg (by decide)]
 refine wpAny_pure ?_
 exact wpAny_bind (wpAny_newObj_type (wpAny_pure h))
theorem oga_next {P:Fin->Shared->Prop}{u:Tok}(hx:s.heap.get? it=some (dG l i))(h:P (.done (.ret (.ref s.heap.objs.size))) { s with heap:=s.heap.push (dU it) }) :
  wpAny (model prog w) A (Builtin.«object.__getattribute__» ⟨[.ref it,.str "__next__" u],[]⟩) P E s:=by
 have hT:s.TypeIs (.ref it) "list_iterator":=⟨_,hx,rfl⟩
 unfold Builtin.«object.__getattribute__»
 refine wpAny_bind (wpAny_of_eq (a:=(.ref it,[.str "__next__" u])) (by first | rfl | kernel_rfl) ?_)
 refine wpAny_bind (wpAny_of_eq (a:=("__next__":Str)) (by first | rfl | kernel_rfl) ?_)
 refine wpAny_bind (wpAny_typeOf hT (wpAny_bind (zC hx ?_)))
 show wpAny _ _ (bindTo (.builtin "wrapper_descriptor.__get__") (.builtin "list_iterator.__next__") (.ref it) (.type "list_iterator")) _ _ _
 unfold bindTo
 refine wpAny_bind (wpAny_holding (wpAny_call_entry slot_wget (s:=s) oM vJ (run_wget hx ⟨_,rfl,wpAny_pure h⟩) (AF _ _ _)))
theorem pV {b:Bool}(hx:s.heap.get? it=some (dG l i))(q:Q (.ref s.heap.objs.size) { s with heap:=s.heap.push (dU it),toks:=s.toks+1 }):wpAny (model prog w) A (getAttr (.ref it) "__next__" b) Q E s:=by
 have hT:∀tk,({ s with toks:=tk }:Shared).TypeIs (.ref it) "list_iterator":=λtk=>⟨_,hx,rfl⟩
 unfold getAttr getAttrBy
 refine wpAny_bind (wpAny_mkText (wpAny_holding (wpAny_bind (wpAny_typeOf (hT _) ?_))))
 refine wpAny_bind (wpAny_of_eq slot_liga.lookup ?_)
 show wpAny _ _ (getAttrByItsOwn (.ref it) (.str "__next__" s.toks) (.type "list_iterator") (.builtin "object.__getattribute__") true b) _ _ _
 unfold getAttrByItsOwn hookBefore callGetattribute boundAndCalled
 refine wpAny_bind (wpAny_of_eq (a:=(none:Option Value)) rfl ?_)
 refine wpAny_bind (wpAny_attempt (wpAny_holding ?_))
 rw [show(b && onTheHeap (.builtin "object.__getattribute__"))=false by cases b <;> rfl]
 rw [if_neg (by decide)]
 refine wpAny_bind (wpAny_of_eq (slot_liga.bind (.ref it)) ?_)
 refine wpAny_call_entry slot_liga (s:={ s with toks:=s.toks+1 }) (hT _) zN (oga_next (s:={ s with toks:=s.toks+1 }) hx ⟨_,rfl,?_⟩) (args_oga _ _)
 exact wpAny_pure q
theorem uH {as:Args}:(Code.builtin "list_iterator.__next__" as).quiet=true:=Code.quiet_builtin _ (by decide +kernel)
theorem vS (it:Addr):checkBoundCall "list_iterator.__next__" ⟨[.ref it],[]⟩=pure ():=by first | rfl | kernel_rfl
theorem zX {mw:Addr}(hm:s.heap.get? mw=some (dU it))
  (h:wpAny (model prog w) A.in1 (Builtin.«list_iterator.__next__» ⟨[.ref it],[]⟩) (λfin s'=>match fin with | .done f=>R (.ok f) s' | .again c'=>c'.quiet=true/\codeAny (model prog w) A c' R s') (λe s'=>R (.error e) s') s) :
  codeAny (model prog w) A (.call (.ref mw) ⟨[],[]⟩) R s:=by
 refine codeAny_of_tree ?_
 show wpAny _ A.in1 (callAny (.ref mw) ⟨[],[]⟩) _ _ s
 show wpAny _ A.in1 (load mw >>= _) _ _ s
 refine wpAny_bind (wpAny_load hm ?_)
 refine KFB.if_so (show(Value.type "method-wrapper"==Value.type "method" || Value.type "method-wrapper"==Value.type "builtin_function_or_method" || Value.type "method-wrapper"==Value.type "method-wrapper")=true by decide) ?_
 refine KFB.if_so (show(Value.type "method-wrapper" != Value.type "method")=true by decide) ?_
 refine wpAny_bind (wpAny_of_eq (a:=()) (vS it) ?_)
 refine wpAny_bind (wpAny_pure (wpAny_pure ⟨uH,codeAny_builtin entry_listiter_next ?_⟩))
 rw [Around.under_plainId slot_listiter_next.plain]
 exact h
theorem x7 {P:Fin->Shared->Prop}{items:Array Value}{m:Nat}{x:Value}(hx:s.heap.get? it=some (dG l i))(hl:IsL s.heap l items m)(hi:items[i]?=some x)
  (h:∀h',Heap.SameBut it s.heap h'->h'.get? it=some (dG l (i+1))->P (.done (.ret x)) { s with heap:=h' }):wpAny (model prog w) A (Builtin.«list_iterator.__next__» ⟨[.ref it],[]⟩) P E s:=by
 show wpAny _ _ (field (.ref it) 0 >>= _) _ _ s
 refine wpAny_bind (wpAny_field hx rfl (x:=.ref l) rfl ?_)
 show wpAny _ _ (if (Value.ref l==Value.none)=true then _ else _) _ _ s
 rw [if_neg (show ¬((Value.ref l==Value.none)=true) from Bool.false_ne_true)]
 show wpAny _ _ (field (.ref it) 1 >>= _) _ _ s
 refine wpAny_bind (wpAny_field hx rfl (x:=.int i 0) rfl ?_)
 show wpAny _ _ (seqItems? (.ref l) >>= _) _ _ s
 refine wpAny_bind (wpAny_seqItems hl rfl ?_)
 simp only [Int.toNat_natCast,hi]
 refine wpAny_bind (wpAny_setField hx rfl (by simp) (wpAny_pure (h _ (Heap.SameBut.update ..) ?_)))
 rw [Heap.get?_update_self _ hx (Obj.isFreed_of_fields (Obj.data_mapFields rfl _))]
 simp [dG,Obj.mapFields,rawInt]
structure NewExcAt (h h':Heap) (e:Addr) (X:String):Prop where
 new:h.get? e=none
 there:∃ob vs,h'.get? e=some ob/\ob.cls=.type X/\ob.data=.fields vs/\vs[1]?=some .none
theorem next_end {P:Fin->Shared->Prop}{items:Array Value}{m:Nat}(hh:A.handled=none)(hx:s.heap.get? it=some (dG l i))(hl:IsL s.heap l items m)(hi:items[i]?=none)
  (h:∀h' e,Heap.ExtBut it s.heap h'->(∃o,h'.get? it=some o)->NewExcAt s.heap h' e "StopIteration"->E (.ref e) { s with heap:=h' }):wpAny (model prog w) A (Builtin.«list_iterator.__next__» ⟨[.ref it],[]⟩) P E s:=by
 show wpAny _ _ (field (.ref it) 0 >>= _) _ _ s
 refine wpAny_bind (wpAny_field hx rfl (x:=.ref l) rfl ?_)
 show wpAny _ _ (if (Value.ref l==Value.none)=true then _ else _) _ _ s
 rw [if_neg (show ¬((Value.ref l==Value.none)=true) from Bool.false_ne_true)]
 show wpAny _ _ (field (.ref it) 1 >>= _) _ _ s
 refine wpAny_bind (wpAny_field hx rfl (x:=.int i 0) rfl ?_)
 show wpAny _ _ (seqItems? (.ref l) >>= _) _ _ s
 refine wpAny_bind (wpAny_seqItems hl rfl ?_)
 simp only [Int.toNat_natCast,hi]
 refine wpAny_bind (wpAny_rule (wpAny_bind (wpAny_setField hx rfl (by simp) ?_)))
 show wpAny _ _ (newExc (.type "StopIteration") [] >>= _) _ _ _
 refine wpAny_bind ?_
 simp only [newExc,newTuple]
 refine wpAny_bind (wpAny_newObj_type ?_ (by size_fits))
 refine wpAny_bind (m:=firstArgMember _ _) (wpAny_of_eq (a:=Value.none) (by first | rfl | (simp only [firstArgMember]; rfl)) ?_)
 refine wpAny_newObj_type ?_ (by size_fits)
 unfold raiseNew
 refine wpAny_bind (wpAny_handled ?_)
 rw [hh]
 refine wpAny_bind (wpAny_pure (wpAny_throw ?_))
 refine h _ _ (((Heap.SameBut.update ..).extBut.push _).push _) ?_ ⟨?_,_,_,Heap.get?_push_size _ rfl,rfl,rfl,rfl⟩
 ·exact⟨_,Heap.get?_push_of_some _ (Heap.get?_push_of_some _ (Heap.get?_update_self _ hx (Obj.isFreed_of_fields (Obj.data_mapFields rfl _))))⟩
 ·refine cJ (aD s) ?_
  show @LE.le Nat _ s.heap.objs.size _
  rw [Heap.size_push,Heap.size_after_update]
  exact Nat.le_succ _
end
end
theorem zB (f:Frm g A F h){fs:List Env}(hfs:A.frames=some fs){e:Addr}:h.FunFrames (hideAll h (e::fs.filterMap (·.frame))) fs:=by
 obtain⟨⟨fs',h1,h2⟩,_⟩:=f
 rw [hfs] at h1; cases h1
 have:∀(l:List Env),(∀x∈l,x∈fs)->h.FunFrames (hideAll h (e::fs.filterMap (·.frame))) l:=by
  intro l
  induction l with
  | nil=>intro _; trivial
  | cons x l ih =>
   intro hl
   obtain⟨k,L,o,e1,e2,e3,e4⟩:=h2 x (hl x (by simp))
   exact⟨k,⟨L,o,e1,hideAll_none _ (List.mem_cons_of_mem _ (List.mem_filterMap.mpr ⟨x,hl x (by simp),e1⟩)),e3,e4⟩,ih λy hy=>hl y (by simp [hy])⟩
 exact this fs λzw h=>h
theorem pL {outer:List Env}{L e:Addr}{oe:Obj}{vs:Array Value}{head:Value}{hadNext:Bool}{Q:Unit->Shared->Prop}(f:Frm g A F s.heap)(hfr:A.frames=some (env::outer))(hf:env.frame=some L)
  (he:s.heap.get? e=some oe) (hd:oe.data=.fields vs) (hsz:1 < vs.size)
  (q:∀s' T,Cx (λb=>b=e) F s s'->s.heap.get? T=none->T≠e->s'.heap.get? e=some (Obj.mapFields (·.setIfInBounds 1 (Value.ref T)) oe)->(∃oT ts,s'.heap.get? T=some oT/\oT.data=.fields ts/\ts[3]?=some .none)->Q () s') :
  wpAny g.M A (do let a <- frameOf env; let pl <- entryPlaceOf L hadNext; let b <- EntryCells.newEntry head a .none (rawInt L) .none pl; setField (.ref e) 1 b) (λzw s'=>wpAny g.M A (setFlight (.ref e) none) Q E s') E s:=by
 have hl:=zB (e:=e) f hfr
 have inF:∀b,b∈(env::outer).filterMap (·.frame)->F b:=λb hbm=>by
  obtain⟨⟨fs,e1,e2⟩,_⟩:=f
  rw [hfr] at e1; cases e1
  obtain⟨x,hx,hxf⟩:=List.mem_filterMap.mp hbm
  obtain⟨_,L',o,e3,e4,_⟩:=e2 x hx
  rw [hxf] at e3; cases e3; exact e4
 have hene:e∉(env::outer).filterMap (·.frame):=λhm=>by
  obtain⟨_,o,ho,hnf⟩:=hl.mem hm
  have ho:s.heap.get? e=some o:=ho
  rw [he] at ho; cases ho
  exact hnf vs hd
 refine wpAny_bind (wpAny_frameOf_fun hfr hl hf λh1 hs1=>?_)
 refine wpAny_bind (wpAny_entryPlaceOf λpl hpl=>?_)
 obtain⟨z1,z2,z3⟩:=hs1
 have he1:h1.get? e=some oe:=(z2 e hene).trans he
 refine wpAny_bind (wpAny_newObj_type ?_ (hpl.sizeOk5 _ _ _ _ _))
 have l3:3 < ([head,.ref L,.none,rawInt L,.none]++(if pl.isEmpty then List.replicate 6 Value.none else pl)).toArray.size:=by
  rw [List.size_toArray,List.length_append]
  exact Nat.lt_of_lt_of_le (by decide:3 < 5) (Nat.le_add_right _ _)
 generalize ([head,.ref L,.none,rawInt L,.none]++(if pl.isEmpty then List.replicate 6 Value.none else pl)).toArray=es at l3 ⊢
 have he2:=Heap.get?_push_of_some (h:=h1) { cls:=.type "traceback",dict:=none,data:=.fields es } he1
 refine wpAny_setField he2 hd hsz ?_
 have hTe:h1.objs.size≠e:=Nat.ne_of_gt (Heap.lt_size he1)
 have hd3:=Obj.data_mapFields hd (·.setIfInBounds 1 (Value.ref h1.objs.size))
 have he3:=Heap.get?_update_self (Obj.mapFields (·.setIfInBounds 1 (Value.ref h1.objs.size))) he2 (Obj.isFreed_of_fields hd3)
 have hT3:=(Heap.get?_update_other (h1.push { cls:=.type "traceback",dict:=none,data:=.fields es }) (Obj.mapFields (·.setIfInBounds 1 (Value.ref h1.objs.size))) (Ne.symm hTe)).trans (Heap.get?_push_size h1 rfl)
 unfold setFlight
 refine wpAny_bind (wpAny_field he3 hd3 (x:=.ref h1.objs.size) (by simp [hsz]) ?_)
 rw [if_pos (show(Value.ref h1.objs.size != Value.none)=true from by simp)]
 have hsn:s.heap.get? h1.objs.size=none:=by rw [z1]; exact Heap.get?_none_of_le (Nat.le_refl _)
 refine wpAny_setField hT3 rfl l3 (q _ h1.objs.size ⟨⟨_,s.toks,rfl⟩,λb o hb eb=>?_⟩ hsn hTe ?_ ⟨_,_,Heap.get?_update_self _ hT3 (Obj.isFreed_of_fields (Obj.data_mapFields rfl _)),Obj.data_mapFields rfl _,?_⟩)
 ·have hbT:h1.objs.size≠b:=λz=>by rw [<- z,hsn] at eb; cases eb
  have keep:∀o',h1.get? b=some o'->(((h1.push { cls:=.type "traceback",dict:=none,data:=.fields es }).update e (Obj.mapFields (·.setIfInBounds 1 (Value.ref h1.objs.size)))).update h1.objs.size (Obj.mapFields (·.setIfInBounds 3 ((none:Option Addr).elim Value.none λf=>rawInt f)))).get? b=some o':=λo' e'=>by
   rw [Heap.get?_update_other _ _ hbT,Heap.get?_update_other _ _ (Ne.symm hb)]
   exact Heap.get?_push_of_some _ e'
  obtain⟨sl,e'⟩:=z3 b o eb
  exact⟨⟨sl,keep _ e'⟩,λhF=>keep _ ((z2 b λhm=>hF (inF b hm)).trans eb)⟩
 ·rw [Heap.get?_update_other _ _ hTe]; exact he3
 ·rw [Array.getElem?_setIfInBounds_self_of_lt l3]; rfl
theorem noted {outer:List Env}{L e:Addr}{ob:Obj}{vs:Array Value}{Q:Unit->Shared->Prop}(f:Frm g A F s.heap)(hfr:A.frames=some (env::outer))(hf:env.frame=some L)
  (he:s.heap.get? e=some ob) (hd:ob.data=.fields vs) (h1:vs[1]?=some .none)
  (q:∀s',Cx (λb=>b=e) F s s'->(∃T oe vs' oT ts,s'.heap.get? e=some oe/\oe.cls=ob.cls/\oe.data=.fields vs'/\vs'[1]?=some (.ref T)/\s.heap.get? T=none/\T≠e/\s'.heap.get? T=some oT/\oT.data=.fields ts/\ts[3]?=some .none/\vs'[2]?=vs[2]?)->Q () s') :
  wpAny g.M A (noteFrame (.ref e) env) (λzw s2=>wpAny g.M A (setFlight (.ref e) none) Q E s2) E s:=by
 have hsz:=(Array.getElem?_eq_some_iff.mp h1).1
 unfold noteFrame
 simp only [hf]
 refine wpAny_bind (wpAny_field he hd h1 ?_)
 rw [if_neg (by decide)]
 refine pL f hfr hf he hd hsz λs' T cx hT hTe he' hoT=>?_
 obtain⟨oT,ts,t7,t8,t9⟩:=hoT
 exact q s' cx ⟨T,_,_,oT,ts,he',Obj.cls_mapFields _ _,Obj.data_mapFields hd _,by simp [hsz],hT,hTe,t7,t8,t9,Array.getElem?_setIfInBounds_ne (by decide)⟩
theorem Run.caught {W:Avoid}{Q:Flow->Shared->Prop}{e:Addr}{ob:Obj}{vs:Array Value}{X T:String}{hp:Pos}{b0:Stmt}{suite:List Stmt}{rest:List ExceptHandler}(r:Run c O M W V s)
  (hW:W e) (he:s.heap.get? e=some ob) (hc:ob.cls=.type X) (hd:ob.data=.fields vs) (h1:vs[1]?=some .none)
  (hs:V.sc.lookup x=some .globalImplicit) (hv:nsIn c.g.K mainGlobals x=some none) (hb:bootBuiltins x=some (.type T)) (hn:x≠"__name__") (hdb:(x==("__debug__":Str))=false)
  (hexc:isSubtype (.type T) (.type "BaseException")=pure true) (hnt:isSubtype (.type ((Manifest.find? T).elim "type" λy=>y.metatype)) (.type "tuple")=pure false) (hsub:isSubtype (.type X) (.type T)=pure true)
  (k:∀s5 E',Cx (λb=>b=e) c.Fc s s5->Run c O M W V s5->wpAny c.g.M (c.Ar.mark (some (.ref e))) (execs (b0::suite) c.env) Q E' s5) :
  wpAny c.g.M c.Ar (noteFrame (.ref e) c.env) (λzw s2=>wpAny c.g.M c.Ar (setFlight (.ref e) none) (λzw s3=>wpAny c.g.M c.Ar (handleBy (.ref e) c.env (.ExceptHandler (some (.Name x np)) none (b0::suite) hp::rest)) Q E s3) E s2) E s:=by
 have fi:=r.frmIn
 obtain⟨⟨fs,hfs,_⟩,_⟩:=r.frm
 have hfr:c.Ar.frames=some (c.env::fs):=by show c.A.frames.map _=_; rw [hfs]; rfl
 refine noted fi hfr r.fr he hd h1 λs3 cx3 hnn=>?_
 obtain⟨T',oe,vs',oT,ts,t1,t2,t3,t4,t5,t6,t7,t8,t9,_⟩:=hnn
 have al:∀s',Cx (λb=>b=e) c.Fc s s'->(∃o,s'.heap.get? e=some o)->Alloc W s':=λs' cx h b hb=>by
  by_cases hbe:b=e
  ·rw [hbe]; exact h
  ·obtain⟨o,eo⟩:=r.act.aO b (r.wo b hb)
   obtain⟨⟨sl,e'⟩,_⟩:=cx.2 b o hbe eo
   exact⟨_,e'⟩
 have run:∀s',Cx (λb=>b=e) c.Fc s s'->(∃o,s'.heap.get? e=some o)->Run c O M W V s':=λs' cx h=>by
  have z:=r.eff (W':=W) (cx.mono (λb hb=>by rw [hb]; exact hW) λzw h=>h) (λzw h=>h) (λzw h=>.inl h) (al s' cx h)
  exact { z with act:=z.act.impO λb h=>.inl h,pl:=r.pl,oo:=r.oo,on:=r.on,lo:=r.lo,nf:=r.nf,wo:=r.wo,oz:=r.oz,ou:=r.ou }
 have r3:=run s3 cx3 ⟨_,t1⟩
 have eT:isSubtype (.type X) (.type T)=pure true:=hsub
 refine wpAny_handleBy_builtin (X:=X) (T:=T) (b:=true) hexc hnt hsub (aT r3.act.up r3.act.eo hs hv hb hn hdb ⟨rfl,⟨_,t1,t2.trans hc⟩,?_⟩)
 rw [if_pos rfl]
 have hsz:3 < ts.size:=(Array.getElem?_eq_some_iff.mp t9).1
 refine wpAny_setFlight_none t1 t3 t4 t7 t8 hsz ?_
 have cx4:Cx (λb=>b=e) c.Fc s { s3 with heap:=s3.heap.update T' (Obj.mapFields (·.setIfInBounds 3 .none)) }:=cx3.step (W:=λb=>b=T') (F:=No) (.of_chg ⟨⟨_,s3.toks,rfl⟩,λb o hb eb=>(Heap.get?_update_ne _ _ _ _ hb).trans eb⟩) (λb hb=>.inr (by rw [hb]; exact t5)) λzw h=>h.elim
 exact k _ _ cx4 (run _ cx4 ⟨_,(Heap.get?_update_ne _ _ _ _ t6.symm).trans t1⟩)
noncomputable def gK:List (Int×List Int)->Option (Int×List (Int×List Int))
 | []=>none
 | (k,c::cs)::r=>some (c,(k,cs)::r)
 | (_,[])::r=>gK r
noncomputable def eQ (go:List (Int×List Int)->List Int->Int->Option (List Int ⊕ List Int)) (stk:List (Int×List Int)) (seen:List Int):Option (List Int ⊕ List Int):=match gK stk with
 | none=>some (.inr seen)
 | some (c,stk')=>go stk' seen c
noncomputable def fA (succ:Int->List Int):Nat->List (Int×List Int)->List Int->Int->Option (List Int ⊕ List Int)
 | 0,_,_,_=>none
 | f+1,stk,seen,node =>
  if seen.contains node then
   if stk.any (λp=>p.1==node) then some (.inl ((stk.map (·.1)).reverse.dropWhile (λx=>x != node)++[node]))
   else eQ (fA succ f) stk seen
  else eQ (fA succ f) ((node,succ node)::stk) (node::seen)
noncomputable def fM (succ:Int->List Int) (f:Nat):List Int->List Int->Option (Option (List Int))
 | [],_=>some none
 | k::ks,seen=>if seen.contains k then fM succ f ks seen else match fA succ f [] seen k with
  | none=>none
  | some (.inl r)=>some (some r)
  | some (.inr seen')=>fM succ f ks seen'
noncomputable def SS.cyc (σ:SS):Option (Option (List Int)):=fM σ.succOf 200 (σ.nodes.map (·.id)) []
set_option backward.match.sparseCases false
section
structure Lv where
 k:Int
 mw:Addr
 it:Addr
 suc:Addr
 i:Nat
 xs:List Int
noncomputable def Lv.all (v:Lv):List Addr:=[v.mw,v.it]
noncomputable def Lv.pl (v:Lv):Int×List Int:=(v.k,v.xs.drop v.i)
structure Four where
 a1:Addr
 a2:Addr
 a3:Addr
 a4:Addr
noncomputable def Four.all (f:Four) (st:List Lv):List Addr:=f.a1::f.a2::f.a3::f.a4::st.flatMap Lv.all
theorem fm1 {f:Four}{st:List Lv}:f.a1∈f.all st:=List.Mem.head _
theorem fm2 {f:Four}{st:List Lv}:f.a2∈f.all st:=List.Mem.tail _ (List.Mem.head _)
theorem fm3 {f:Four}{st:List Lv}:f.a3∈f.all st:=List.Mem.tail _ (List.Mem.tail _ (List.Mem.head _))
theorem fm4 {f:Four}{st:List Lv}:f.a4∈f.all st:=List.Mem.tail _ (List.Mem.tail _ (List.Mem.tail _ (List.Mem.head _)))
theorem lm1 {v:Lv}:v.mw∈v.all:=List.Mem.head _
theorem lm2 {v:Lv}:v.it∈v.all:=List.Mem.tail _ (List.Mem.head _)
theorem fmL {f:Four}{st:List Lv}{b:Addr}(h:b∈st.flatMap Lv.all):b∈f.all st:=List.Mem.tail _ (List.Mem.tail _ (List.Mem.tail _ (List.Mem.tail _ h)))
noncomputable def kvL:List Lv->List Tok->List (Int×Value)
 | v::st,t::ts=>kvL st ts++[(v.k,.int st.length t)]
 | _,_=>[]
structure Sch (g:Glob) (h:Heap) (f:Four) (st:List Lv) (seen:List Int):Prop where
 stack:Ints h f.a1 (st.map (·.k)).reverse
 its:∃m,IsL h f.a2 ((st.map λv=>Value.ref v.mw).reverse.toArray) m
 set:∃S n,h.SetOf (intKind g.prog g.w) f.a3 S n/\(∀k,S k=seen.contains k)/\n<=seen.length
 dict:∃ts,ts.length=st.length/\h.DictOf (intKind g.prog g.w) f.a4 (kvL st ts)
 sub:∀v∈st,seen.contains v.k=true
 sys:(f.a4==sysModules)=false
 lv:∀v∈st,h.get? v.mw=some (dU v.it)/\h.get? v.it=some (dG v.suc v.i)
 nd:(f.all st).Nodup
 small:st.length<=1000
section
variable {f:Four} {st:List Lv} {seen:List Int}
theorem Sch.keeps (x:Sch g h f st seen)(k:∀b o,b∈f.all st->h.get? b=some o->h'.get? b=some o):Sch g h' f st seen:=by
 obtain⟨m,hm⟩:=x.its
 obtain⟨S,n,hS,h1,h2⟩:=x.set
 obtain⟨ts,h3,hd⟩:=x.dict
 refine { x with stack:=x.stack.keeps λo=>k _ o (by first | exact fm1 | exact fm2 | exact fm3 | exact fm4),its:=⟨m,k _ _ (by first | exact fm1 | exact fm2 | exact fm3 | exact fm4) hm⟩,set:=⟨S,n,?_,h1,h2⟩,dict:=⟨ts,h3,?_⟩,lv:=λv hv=>?_ }
 ·obtain⟨o,es,ep,t,e,r⟩:=hS
  exact⟨o,es,ep,t,k _ _ (by first | exact fm1 | exact fm2 | exact fm3 | exact fm4) e,r⟩
 ·obtain⟨o,es,ep,e,r⟩:=hd
  exact⟨o,es,ep,k _ _ (by first | exact fm1 | exact fm2 | exact fm3 | exact fm4) e,r⟩
 ·have hm:∀b∈v.all,b∈f.all st:=λb hb=>by
   have:b∈st.flatMap Lv.all:=List.mem_flatMap.mpr ⟨v,hv,hb⟩
   simp [Four.all,this]
  exact⟨k _ _ (hm _ (by first | exact lm1 | exact lm2)) (x.lv v hv).1,k _ _ (hm _ (by first | exact lm1 | exact lm2)) (x.lv v hv).2⟩
theorem Sch.alloc (x:Sch g h f st seen):∀b∈f.all st,∃o,h.get? b=some o:=by
 intro b hb
 simp only [Four.all,List.mem_cons] at hb
 rcases hb with rfl | rfl | rfl | rfl | hb
 ·obtain⟨vs,n,e,_⟩:=x.stack; exact⟨_,e⟩
 ·obtain⟨m,e⟩:=x.its; exact⟨_,e⟩
 ·obtain⟨S,n,⟨o,es,ep,t,e,_⟩,_⟩:=x.set; exact⟨o,e⟩
 ·obtain⟨ts,_,o,es,ep,e,_⟩:=x.dict; exact⟨o,e⟩
 ·obtain⟨v,hv,hb⟩:=List.mem_flatMap.mp hb
  simp only [Lv.all,List.mem_cons,List.not_mem_nil,or_false] at hb
  rcases hb with rfl | rfl
  ·exact⟨_,(x.lv v hv).1⟩
  ·exact⟨_,(x.lv v hv).2⟩
end
theorem iS:∀(st:List Lv) (ts:List Tok),ts.length=st.length->(kvL st ts).map (·.1)=(st.map (·.k)).reverse
 | [],[],_=>rfl
 | [],_::_,h=>by simp at h
 | _::_,[],h=>by simp at h
 | v::st,t::ts,h=>by
  simp only [kvL,List.map_append,List.map_cons,List.map_nil,List.reverse_cons]
  rw [iS st ts (by simpa using h)]
theorem yN (st:List Lv)(ts:List Tok)(h:ts.length=st.length):(kvL st ts).length=st.length:=by
 have:=congrArg List.length (iS st ts h)
 simpa using this
theorem d8 (a b:List (Int×Value))(k:Int):valueAt (a++b) k=(valueAt a k).or (valueAt b k):=by
 unfold valueAt
 rw [List.find?_append]
 cases List.find? (λkv=>decide (kv.1=k)) a <;> simp
theorem oL {a:List (Int×Value)}{k:Int}(h:k∉a.map (·.1)):valueAt a k=none:=by
 unfold valueAt
 rw [List.find?_eq_none.mpr]
 ·rfl
 ·intro p hp e
  exact h (List.mem_map.mpr ⟨p,hp,by simpa using e⟩)
theorem q8:∀(st:List Lv) (ts:List Tok),ts.length=st.length->∀k,(valueAt (kvL st ts) k).isSome=st.any (λv=>v.k==k)
 | [],ts,h,k=>by simp [kvL,valueAt]
 | _::_,[],h,_=>by simp at h
 | v::st,t::ts,h,k=>by
  simp only [kvL,List.any_cons]
  rw [d8,Option.isSome_or,q8 st ts (by simpa using h) k,Bool.or_comm]
  congr 1
  unfold valueAt
  by_cases e:v.k=k
  ·simp [e]
  ·simp [e]
theorem iW {α:Type}{p:α->Bool}:∀(l:List α),(∀x∈l,p x=true)->l.dropWhile p=[]
 | [],_=>rfl
 | x::l,h=>by
  rw [List.dropWhile_cons,if_pos (h x (by simp))]
  exact iW l λy hy=>h y (by simp [hy])
theorem kvL_at:∀(st:List Lv) (ts:List Tok),ts.length=st.length->∀k,st.any (λv=>v.k==k)=true->(st.map (·.k)).Nodup->∃(j:Nat) (t:Tok),valueAt (kvL st ts) k=some (.int j t)/\j < st.length/\(st.map (·.k)).reverse.drop j=(st.map (·.k)).reverse.dropWhile (λx=>x != k)
 | [],ts,h,k,hk,_=>by simp at hk
 | _::_,[],h,_,_,_=>by simp at h
 | v::st,t::ts,h,k,hk,hnd=>by
  have hl:ts.length=st.length:=by simpa using h
  simp only [List.map_cons,List.nodup_cons] at hnd
  by_cases hin:st.any (λv=>v.k==k)=true
  ·obtain⟨j,t',h1,h2,h3⟩:=kvL_at st ts hl k hin hnd.2
   refine⟨j,t',?_,by simp only [List.length_cons]; (exact Nat.le_succ_of_le (by assumption)),?_⟩
   ·simp only [kvL]
    rw [d8,h1]; rfl
   ·simp only [List.map_cons,List.reverse_cons]
    rw [List.drop_append_of_le_length (by simp; (exact Nat.le_of_lt (by assumption))),h3]
    rw [List.dropWhile_append]
    have hne:((st.map (·.k)).reverse.dropWhile (λx=>x != k)).isEmpty=false:=by
     rw [<- h3]
     cases hd:(st.map (·.k)).reverse.drop j with
     | nil =>
      have:=congrArg List.length hd
      simp at this
      grind
     | cons _ _=>rfl
    rw [if_neg (by rw [hne]; decide)]
  ·have hv:v.k=k:=by
    simp only [List.any_cons,Bool.or_eq_true,beq_iff_eq] at hk
    exact hk.resolve_right hin
   have hnk:k∉(st.map (·.k)).reverse:=by
    rw [List.mem_reverse]
    intro hm
    obtain⟨x,hx,e⟩:=List.mem_map.mp hm
    exact hin (List.any_eq_true.mpr ⟨x,hx,by simpa using e⟩)
   refine⟨st.length,t,?_,by simp,?_⟩
   ·simp only [kvL]
    rw [d8,oL (by rw [iS st ts hl]; exact hnk)]
    simp [valueAt,hv]
   ·simp only [List.map_cons,List.reverse_cons]
    have hall:(st.map (·.k)).reverse.dropWhile (λx=>x != k)=[]:=iW _ λx hx=>by
     have:x≠k:=λz=>hnk (z ▸ hx)
     simpa using this
    rw [List.dropWhile_append,hall]
    have e1:((st.map (·.k)).reverse++[v.k]).drop st.length=[v.k]:=by
     rw [List.drop_append]
     simp
    rw [e1]
    simp [hv]
theorem kvL_pop {v:Lv}{st:List Lv}{t:Tok}{ts:List Tok}(h:ts.length=st.length)(hnd:((v::st).map (·.k)).Nodup):without (kvL (v::st) (t::ts)) v.k=kvL st ts:=by
 simp only [List.map_cons,List.nodup_cons] at hnd
 unfold without
 simp only [kvL,List.filter_append]
 have e1:(kvL st ts).filter (λkv=>decide (kv.1≠v.k))=kvL st ts:=List.filter_eq_self.mpr λp hp=>by
  have:p.1∈(kvL st ts).map (·.1):=List.mem_map.mpr ⟨p,hp,rfl⟩
  rw [iS st ts h,List.mem_reverse] at this
  exact decide_eq_true λz=>hnd.1 (z ▸ this)
 rw [e1]
 simp
theorem kvL_push {st:List Lv}{ts:List Tok}{k:Int}{x:Value}(h:ts.length=st.length)(hk:k∉st.map (·.k)):stored (kvL st ts) k x=kvL st ts++[(k,x)]:=by
 unfold stored
 have:((kvL st ts).any λkv=>decide (kv.1=k))=false:=by
  rw [List.any_eq_false]
  intro p hp
  have:p.1∈(kvL st ts).map (·.1):=List.mem_map.mpr ⟨p,hp,rfl⟩
  rw [iS st ts h,List.mem_reverse] at this
  intro z
  exact hk ((of_decide_eq_true z) ▸ this)
 rw [this,if_neg (by decide)]
section
theorem pF {l:List Value}{y:Value}(h1:IsL s.heap a (l++[y]).toArray n)(hz:(l++[y]).length<=cap)(q:∀h' n',Heap.SameBut a s.heap h'->IsL h' a l.toArray n'->Q y { s with heap:=h' }):wpAny g.M A (call (.builtin "list.pop") [.ref a]) Q E s:=by
 have hs:(l++[y]).toArray.size - 1=l.length:=by simp
 have up:=IsL.update h1 (λxs=>xs.eraseIdxIfInBounds ((l++[y]).toArray.size - 1))
 have e:(l++[y]).toArray.eraseIdxIfInBounds ((l++[y]).toArray.size - 1)=l.toArray:=by
  rw [hs]
  apply Array.toList_inj.mp
  rw [Array.toList_eraseIdxIfInBounds]
  show(l++[y]).eraseIdx l.length=l
  rw [List.eraseIdx_append_of_length_le (Nat.le_refl _)]
  simp
 rw [e] at up
 exact call_meets PySem.F.slot_list_pop ⟨_,h1,rfl⟩ PySem.F.entry_list_pop (PySem.F.args_list_pop_1 _) (MeetsSeq.list_pop_last a _ n y (by rw [hs]; simp) (by rw [List.size_toArray]; exact Nat.le_trans hz bI)) ⟨h1,q _ _ (Heap.SameBut.update ..) up⟩
theorem ints_pop {xs:List Int}{x:Int}(I:Ints s.heap a (xs++[x]))(q:∀t h',Heap.SameBut a s.heap h'->Ints h' a xs->Q (.int x t) { s with heap:=h' }):wpAny g.M A (call (.builtin "list.pop") [.ref a]) Q E s:=by
 obtain⟨vs,n,h1,h2,h3⟩:=I
 obtain⟨ys,e1,e2⟩:=cG h3
 obtain⟨ys',p,rfl,e3,e4⟩:∃ys' p,ys=ys'++[p]/\ys'.map (·.1)=xs/\p.1=x:=by
  have:=List.map_eq_append_iff.mp e2
  obtain⟨l1,l2,rfl,h1,h2⟩:=this
  obtain⟨p,hp,rfl⟩:∃p,p.1=x/\l2=[p]:=by
   cases l2 with
   | nil=>simp at h2
   | cons p r=>cases r with
    | nil=>simp at h2; exact⟨p,h2,rfl⟩
    | cons _ _=>simp at h2
  exact⟨l1,p,rfl,h1,hp⟩
 subst e3; subst e4
 have hv:vs=(List.map (λ(p:Int×Tok)=>Value.int p.1 p.2) ys'++[Value.int p.1 p.2]).toArray:=by
  apply Array.toList_inj.mp
  rw [e1]; simp
 subst hv
 refine pF (g:=g) h1 (by rw [List.size_toArray] at h2; exact h2) λh' n' hs hI=>q _ h' hs ⟨_,_,hI,?_,?_⟩
 ·rw [List.size_toArray] at h2 ⊢
  simp at h2 ⊢; (exact Nat.le_of_lt (by assumption))
 ·exact bH ys'
theorem kS {vs:Array Value}{name:Str}{id:String}{pl:Sem Bool}{Q:Value×List Value->Shared->Prop}(h1:IsL s.heap a vs n)(sl:Slot "list" name id)(ty:typeOf (.builtin id)=pure (.type "method_descriptor"))(q:Q (.builtin id,[.ref a]) s) :
  wpAny g.M A (getMethod (.ref a) name pl) Q E s :=
 getMethod_builtin (T:="list") ⟨_,h1,rfl⟩ PySem.F.plainAttrs_list sl ty (λb hb=>⟨_,by cases hb; exact h1,rfl⟩) q
theorem zQ {d:Addr}{kvs:List (Int×Value)}{k:Int}{t:Tok}{Q:Unit->Shared->Prop}(hD:s.heap.DictOf (intKind g.prog g.w) d kvs)(hl:(valueAt kvs k).isSome=true)(hz:kvs.length<=sizeLine)(q:∀h',Heap.SameBut d s.heap h'->h'.DictOf (intKind g.prog g.w) d (without kvs k)->Q () { s with heap:=h',toks:=s.toks+1 }) :
  wpAny g.M A (delItem (.ref d) (.int k t)) Q E s:=by
 unfold delItem
 try with_reducible refine wpAny_holding ?_
 refine wpAny_bind (wpAny_sequenceKey hD.typeIs (by decide) ?_)
 exact wpAny_bind (wpAny_callSpecial?_slot (name:=Str.ofString "__delitem__") hD.typeIs PySem.F.slot_dict_delitem
  (call_meetsIn PySem.F.slot_dict_delitem hD.typeIs PySem.F.entry_dict_delitem (PySem.F.args_dict_delitem_2 _ _) (meets_dict_delitem_pairs (intKind g.prog g.w) d (intKind_is g.prog g.w k t)) ⟨kvs,hD,hz,hl,λh' hmm hs=>wpAny_pure (q h' hs hmm)⟩))
theorem qF {vs:Array Value}(h1:IsL s.heap a vs n)(q:Q (.ref s.heap.objs.size) { s with heap:=s.heap.push (dG a 0) }):wpAny g.M A (call (.builtin "iter") [.ref a]) Q E s:=by
 refine call_function_entry (prog:=g.prog) (w:=g.w) (by decide +kernel) (by decide +kernel) kdk_entry_iter (kdk_args_iter _) ?_
 unfold Builtin.«iter»
 refine wpAny_bind (m:=someArgs "iter" 1 2 _) (wpAny_of_eq (a:=[Value.ref a]) (by first | rfl | kernel_rfl!) ?_)
 show wpAny _ _ (pyIter (.ref a) >>= _) _ _ _
 exact wpAny_bind (wpAny_pyIter_list (IsL.isList h1) (wpAny_pure ⟨_,rfl,q⟩))
end
end
noncomputable def fJ (s:Stmt):List Stmt :=
 if h:s.ctorIdx=9 then Stmt.For.elim (motive_2:=λzw=>List Stmt) s h λzw zw b zw zw=>b
 else if h:s.ctorIdx=11 then Stmt.While.elim (motive_2:=λzw=>List Stmt) s h λzw b zw zw=>b
 else if h:s.ctorIdx=12 then Stmt.If.elim (motive_2:=λzw=>List Stmt) s h λzw b zw zw=>b
 else if h:s.ctorIdx=17 then Stmt.Try.elim (motive_2:=λzw=>List Stmt) s h λb zw zw zw zw=>b else []
noncomputable def stElse (s:Stmt):List Stmt:=if h:s.ctorIdx=12 then Stmt.If.elim (motive_2:=λzw=>List Stmt) s h λzw zw o zw=>o else []
noncomputable def cycB:List Stmt:=(mOf "TopologicalSorter" "_find_cycle").1
noncomputable def cycN:List (Str×NameKind):=(mOf "TopologicalSorter" "_find_cycle").2.1
noncomputable def noSt:Stmt:=.Pass default
noncomputable def sL:Stmt:=(fJ (cycB.getD 5 noSt)).getD 1 noSt
noncomputable def yY:Stmt:=(fJ sL).getD 1 noSt
structure CycX (c:Fx) (T:Topo) (l:LayS) (σ:SS):Prop where
 S:Srt c.g T c.s.heap l σ
 w0:∀b,¬c.W b
 off:∀b,l.W b->¬c.F b
 suc:∀nd∈σ.nodes,∀x∈nd.succ,σ.has x=true
 stop:nsIn c.g.K mainGlobals "StopIteration"=some none
theorem CycX.now (x:CycX c T l σ){W:Avoid}(r:Run c O M W V s):Srt c.g T s.heap l σ:=x.S.keeps λb o hb e=>(r.cx.2 b o (x.w0 b) e).2 (x.off b hb)
structure CycN (f:Four) (l:LayS) (V:Rho):Prop where
 sc:∀x,V.sc.lookup x=cycN.lookup x
 n2i:V.is "n2i" (objD l.m)
 stack:V.is "stack" (objD f.a1)
 its:V.is "itstack" (objD f.a2)
 seen:V.is "seen" (objD f.a3)
 n2s:V.is "node2stacki" (objD f.a4)
theorem CycN.node {f:Four}(n:CycN f l V)(d:D):CycN f l (V.put "node" d 0):=⟨n.sc,Rho.is_ne n.n2i rfl,Rho.is_ne n.stack rfl,Rho.is_ne n.its rfl,Rho.is_ne n.seen rfl,Rho.is_ne n.n2s rfl⟩
theorem CycN.st {f:Four}(n:CycN f l V)(h:stOk ⟨cycN,[]⟩ x=true):stOk V x=true:=by
 unfold stOk at h ⊢
 rw [n.sc]; exact h
structure CycW (g:Glob) (l:LayS) (σ:SS) (f:Four) (st:List Lv) (seen:List Int) (W:Avoid) (h:Heap):Prop where
 sch:Sch g h f st seen
 sub:∀b∈f.all st,W b
 lean:∀v∈st,∃(j:Nat) (a:NdA) (nd:Nd),l.ns[j]?=some a/\σ.nodes[j]?=some nd/\v.suc=a.suc/\v.xs=nd.succ/\v.k=nd.id
 ks:(st.map (·.k)).Nodup
theorem Run.nameA {W:Avoid}(r:Run c O M W V s)(h:V.is x (objD a))(hd:(x==("__debug__":Str))=false)(q:Q (.ref a) s):wpAny c.g.M A (eval (.Name x p) c.env) Q E s:=by
 obtain⟨v,hv,hr,_⟩:=r.act.eo.vars x _ 0 h
 have:=aU hr; subst this
 exact wpAny_Name (i4 r.act.eo.kind hv q) hd
theorem Run.back {W:Avoid}(w:∀b,W b->O b)(r:Run c (λb=>O b\/W b) M W V s):Run c O M W V s:=(show(λb=>O b\/W b)=O from funext λb=>propext ⟨λh=>h.elim id (w b),.inl⟩) ▸ r
theorem dW {W:Avoid}(r:Run c O M W V s){tk:Nat}{x:Addr}(hs:Heap.SameBut x s.heap h')(hx:W x)(ho:∃o,h'.get? x=some o):Run c O M W V { s with heap:=h',toks:=tk }:=by
 refine Run.back r.wo (r.eff (W':=W) (s':={ s with heap:=h',toks:=tk }) ((aY (W:=W) hs hx rfl).mono (λzw h=>h) No.le) (λzw h=>h) (λzw h=>.inl h) λb hb=>?_)
 by_cases e:b=x
 ·rw [e]; exact ho
 ·obtain⟨o,eo⟩:=r.act.aO b (r.wo b hb)
  exact⟨o,(hs.2 b e).trans eo⟩
theorem all_cons {f:Four}{v:Lv}{st:List Lv}:∀b,b∈f.all (v::st)↔(b∈f.all st\/b∈v.all):=λb=>by
 simp only [Four.all,List.flatMap_cons,List.mem_cons,List.mem_append]
 constructor
 ·rintro(h | h | h | h | h | h)
  ·exact .inl (.inl h)
  ·exact .inl (.inr (.inl h))
  ·exact .inl (.inr (.inr (.inl h)))
  ·exact .inl (.inr (.inr (.inr (.inl h))))
  ·exact .inr h
  ·exact .inl (.inr (.inr (.inr (.inr h))))
 ·rintro((h | h | h | h | h) | h)
  ·exact .inl h
  ·exact .inr (.inl h)
  ·exact .inr (.inr (.inl h))
  ·exact .inr (.inr (.inr (.inl h)))
  ·exact .inr (.inr (.inr (.inr (.inr h))))
  ·exact .inr (.inr (.inr (.inr (.inl h))))
theorem nd_tail {f:Four}{v:Lv}{st:List Lv}(h:(f.all (v::st)).Nodup):(f.all st).Nodup/\(∀b∈v.all,b∉f.all st)/\v.mw≠v.it:=by
 simp only [Four.all,List.flatMap_cons,List.nodup_cons,List.mem_cons,List.mem_append,not_or,List.nodup_append,Lv.all,List.not_mem_nil,or_false] at h ⊢
 obtain⟨⟨h1,h2,h3,h4,h5⟩,⟨h6,h7,h8,h9⟩,⟨h10,h11,h12⟩,⟨h13,h14⟩,⟨h15,_⟩,h16,h17⟩:=h
 refine⟨⟨⟨h1,h2,h3,h5⟩,⟨h6,h7,h9⟩,⟨h10,h12⟩,h14,h16⟩,λb hb=>?_,h15⟩
 rcases hb with rfl | rfl
 ·exact⟨λz=>h4.1 z.symm,λz=>h8.1 z.symm,λz=>h11.1 z.symm,λz=>h13.1 z.symm,λz=>h17 _ (.inl rfl) _ z rfl⟩
 ·exact⟨λz=>h4.2 z.symm,λz=>h8.2 z.symm,λz=>h11.2 z.symm,λz=>h13.2 z.symm,λz=>h17 _ (.inr rfl) _ z rfl⟩
set_option backward.match.sparseCases true
theorem CycW.keeps {f:Four}{st:List Lv}{seen:List Int}{W:Avoid}(x:CycW g l σ f st seen W h)(k:∀b o,W b->h.get? b=some o->h'.get? b=some o):CycW g l σ f st seen W h' :=
 { x with sch:=x.sch.keeps λb o hb=>k b o (x.sub b hb) }
theorem sucs_of {W W':Avoid}{f:Four}{st:List Lv}{seen:List Int}(X:CycX c T l σ)(r:Run c O M W V s)(w:CycW c.g l σ f st seen W' s.heap){v:Lv}(hv:v∈st):Ints s.heap v.suc v.xs/\(∀x∈v.xs,σ.has x=true):=by
 obtain⟨j,a,nd,h1,h2,e1,e2,_⟩:=w.lean v hv
 rw [e1,e2]
 exact⟨((X.now r).nds j a nd h1 h2).2.2,X.suc nd (List.mem_of_getElem? h2)⟩
theorem vF {W:Avoid}{f:Four}{st:List Lv}{seen:List Int}{Q:Flow->Shared->Prop}(r:Run c O No W V s)(X:CycX c T l σ)(nm:CycN f l V)(w:CycW c.g l σ f st seen W s.heap)
  (q1:∀(x:Int) (st':List Lv) O' W' V' s',gK (st.map Lv.pl)=some (x,st'.map Lv.pl)->σ.has x=true->Run c O' No W' V' s'->CycN f l V'->V'.is "node" (.int x)->CycW c.g l σ f st' seen W' s'.heap->Q .next s')
  (q2:∀O' W' V' s',gK (st.map Lv.pl)=none->Run c O' No W' V' s'->CycN f l V'->CycW c.g l σ f [] seen W' s'.heap->Q .brk s') :
  wpAny c.g.M c.Ar (exec yY c.env) Q E s:=by
 conv in yY=>whnf
 refine r.whileL (λn W V s=>∃st',n=st'.length/\gK (st'.map Lv.pl)=gK (st.map Lv.pl)/\CycN f l V/\CycW c.g l σ f st' seen W s.heap) st.length ⟨st,rfl,rfl,nm,w⟩ ?_
 intro i O' W' V' s' E' hJ r
 obtain⟨st',rfl,hu,nm,w⟩:=hJ
 obtain⟨vs,m,h1,h2,h3⟩:=w.sch.stack
 have hc:cap=100000:=rfl
 have hl:=h3.length
 rw [Array.length_toList,List.length_map,List.length_reverse,List.length_map] at hl
 refine wpAny_isTrue_value (r.nameA nm.stack (by decide) (wpAny_truthy_list (IsL.isList h1) (by grind) ?_)) rfl
 cases st' with
 | nil =>
  have e:vs.isEmpty=true:=by unfold Array.isEmpty; rw [hl]; rfl
  rw [e]
  exact wpAny_execs_cons (wpAny_Break (q2 _ _ _ _ hu.symm (r.toks _) nm w))
 | cons v st' =>
  have e:vs.isEmpty=false:=by unfold Array.isEmpty; rw [hl]; rfl
  rw [e,if_pos (by decide)]
  refine wp_q λQ' hQ=>?_
  (show let Q0:=_; let s_0:Shared:=_; wpAny _ _ _ Q0 _ s_0); intro Q0 s_0
  have r:Run _ _ _ _ _ s_0:=r.toks (s'.toks+1+1)
  obtain⟨hmw,hit⟩:=w.sch.lv v (by simp)
  obtain⟨hint,hhas⟩:=sucs_of X r w (v:=v) (by simp)
  obtain⟨us,m',g1,g2,g3⟩:=hint
  obtain⟨mi,hits⟩:=w.sch.its
  have hsm:=w.sch.small
  have hitW:W' v.it:=w.sub _ ((all_cons _).mpr (.inr (by first | exact lm1 | exact lm2)))
  obtain⟨nd1,nd2,nd3⟩:=nd_tail w.sch.nd
  refine wpAny_execs_cons (wpAny_Try_except ?_)
  ((show let Q0:=_; let E0:=_; wpAny _ _ _ Q0 E0 _); intro Q0 E0)
  refine wp_qe λQ2 E2 hQ2 hE2=>?_
  refine wpAny_execs_cons (r.assignS rfl (Call_ (Subscript_ (r.nameA nm.its (by decide) (r.e0 (ev_neg (ka:=0) eK) λvi s_1 k1 rvi r1=>?_)))))
  ((show let Q0:=_; wpAny _ _ _ Q0 _ _); intro Q0)
  obtain⟨ti,rfl⟩:=aH rvi
  have hits1:=aA k1 _ _ hits
  have hlast:((((v::st').map λv=>Value.ref v.mw).reverse.toArray)[(-1+((((v::st').map λv=>Value.ref v.mw).reverse.toArray).size:Int)).toNat]?:Option Value)=some (.ref v.mw):=by
   have:(-1+((((v::st').map λv=>Value.ref v.mw).reverse.toArray).size:Int)).toNat=st'.length:=by simp; (simp +arith)
   rw [this]
   simp
  refine tail_any (T:="list") ⟨_,hits1,rfl⟩ slot_list_getitem.lookup (wpAny_getItem_list_neg (IsL.isList hits1) (by decide) (by simp; (simp +arith)) (by simp) hlast ?_) (aS rfl _ _)
  refine callWith_of (P:=λh=>h.get? v.mw=some (dU v.it)) rfl (λh hP=>⟨.machine,.inr (.inl rfl),(Looks.ld (part:=none) hP).andThen .now⟩) (evalArgs_nil3 ⟨aA k1 _ _ hmw,wpAny_call (zX (aA k1 _ _ hmw) ?_)⟩)
  ((show let Q0:=_; let E0:=_; wpAny _ _ _ Q0 E0 _); intro Q0 E0)
  have hit1:=aA k1 _ _ hit
  have g11:=aA k1 _ _ g1
  have w1:CycW c.g l σ f (v::st') seen W' s_1.heap:=w.keeps λb o zw=>aA k1 b o
  have glen:=g3.length
  rw [Array.length_toList,List.length_map] at glen
  by_cases hi:v.i < v.xs.length
  ·
   obtain⟨x,hx⟩:∃x,v.xs[v.i]?=some x:=⟨_,List.getElem?_eq_getElem hi⟩
   obtain⟨vx,hvx,hrx⟩:=g3.get (i:=v.i) (d:=.int x) (by simp [hx])
   obtain⟨tx,rfl⟩:=aH hrx
   refine x7 hit1 g11 (by rw [<- Array.getElem?_toList]; exact hvx) λh_2 hs2 hit2=>?_
   (show let Q0:=_; let s_2:Shared:=_; wpAny _ _ _ Q0 _ s_2); intro Q0 s_2
   have r2:Run _ _ _ _ _ s_2:=dW (tk:=s_1.toks) r1 hs2 hitW ⟨_,hit2⟩
   refine r2.store (d:=.int x) (nm.st rfl) .int λs3 c3 r3=>?_
   refine wpAny_execs_cons (wpAny_Break ?_)
   refine hQ2 _ _ ?_
   let v':Lv:={ v with i:=v.i+1 }
   have eall:∀b,b∈f.all (v'::st')↔b∈f.all (v::st'):=λb=>by rw [all_cons,all_cons]; rfl
   have sch2:Sch c.g h_2 f (v'::st') seen:=by
    have off:∀b,b∈f.all st'->b≠v.it:=λb hb z=>nd2 v.it (by first | exact lm1 | exact lm2) (z ▸ hb)
    have o1:f.a1≠v.it:=off _ (by first | exact fm1 | exact fm2 | exact fm3 | exact fm4)
    have o2:f.a2≠v.it:=off _ (by first | exact fm1 | exact fm2 | exact fm3 | exact fm4)
    have o3:f.a3≠v.it:=off _ (by first | exact fm1 | exact fm2 | exact fm3 | exact fm4)
    have o4:f.a4≠v.it:=off _ (by first | exact fm1 | exact fm2 | exact fm3 | exact fm4)
    obtain⟨S,n,hS,q1',q2'⟩:=w1.sch.set
    obtain⟨ts,q3,hd⟩:=w1.sch.dict
    refine⟨w1.sch.stack.keeps λo e=>(hs2.2 _ o1).trans e,⟨mi,(hs2.2 _ o2).trans hits1⟩,⟨S,n,?_,q1',q2'⟩,⟨ts,q3,?_⟩,λu hu=>?_,w.sch.sys,λu hu=>?_,?_,hsm⟩
    ·obtain⟨o,es,ep,t,e,rr⟩:=hS
     exact⟨o,es,ep,t,(hs2.2 _ o3).trans e,rr⟩
    ·have ek:kvL (v'::st') ts=kvL (v::st') ts:=by cases ts <;> rfl
     rw [ek]; exact hd.sameBut hs2 o4
    ·rcases List.mem_cons.mp hu with rfl | hu
     ·exact w.sch.sub v (by simp)
     ·exact w.sch.sub u (by simp [hu])
    ·rcases List.mem_cons.mp hu with rfl | hu
     ·exact⟨(hs2.2 _ nd3).trans (aA k1 _ _ hmw),hit2⟩
     ·have hm:∀b∈u.all,b∈f.all st':=λb hb=>by
       have:b∈st'.flatMap Lv.all:=List.mem_flatMap.mpr ⟨u,hu,hb⟩
       exact fmL this
      have:=w1.sch.lv u (by simp [hu])
      exact⟨(hs2.2 _ (off _ (hm _ (by first | exact lm1 | exact lm2)))).trans this.1,(hs2.2 _ (off _ (hm _ (by first | exact lm1 | exact lm2)))).trans this.2⟩
    ·exact w.sch.nd
   have sch3:Sch c.g s3.heap f (v'::st') seen:=sch2.keeps λb o hb e=>r2.same c3 b o (w.sub b ((eall b).mp hb)) e
   have hdrop:v.xs.drop v.i=x::v.xs.drop (v.i+1):=by
    rw [List.drop_eq_getElem_cons hi]
    have:=(List.getElem?_eq_some_iff.mp hx).2
    rw [this]
   refine hQ _ _ ?_
   refine q1 x (v'::st') _ _ _ s3 ?_ (hhas x (List.mem_of_getElem? hx)) r3 (nm.node _) Rho.is_put ⟨sch3,λb hb=>w.sub b ((eall b).mp hb),λu hu=>?_,w.ks⟩
   ·rw [<- hu]
    show gK ((v.k,v.xs.drop v.i)::st'.map Lv.pl)=_
    rw [hdrop]; rfl
   ·rcases List.mem_cons.mp hu with rfl | hu
    ·exact w.lean v (by simp)
    ·exact w.lean u (by simp [hu])
  ·
   have hnone:us[v.i]?=none:=Array.getElem?_eq_none (by grind)
   refine next_end (by rw [show(c.Ar.in1).handled=c.Ar.handled from rfl]; exact r.rm.handled) hit1 g11 hnone λh_2 e hx2 hito hne=>?_
   let s_2:Shared:={ s_1 with heap:=h_2 }
   obtain⟨en,ob,evs,e1,e2,e3,e4⟩:=hne
   let W_2:Avoid:=λb=>W' b\/b=e
   have cx2:Cx W' c.Fc s_1 s_2:=(Cx.of_chg ⟨⟨h_2,s_1.toks,rfl⟩,λb o hb eb=>hx2 b o (λz=>hb (z ▸ hitW)) eb⟩)
   have off2:∀b o,b≠v.it->s_1.heap.get? b=some o->h_2.get? b=some o:=λb o hb eb=>hx2 b o hb eb
   have r2:Run c _ No W_2 V' s_2:=r1.eff (W':=W_2) cx2 (λzw h=>.inl h) (λb hb=>by
    rcases hb with hb | hb
    ·exact .inl hb
    ·exact .inr (by rw [hb]; exact en)) λb hb=>by
     rcases hb with hb | hb
     ·by_cases ebi:b=v.it
      ·rw [ebi]; exact hito
      ·obtain⟨o,eo⟩:=r1.act.aO b (r1.wo b hb)
       exact⟨o,off2 b o ebi eo⟩
     ·rw [hb]; exact⟨_,e1⟩
   refine hE2 _ _ ?_
   refine r2.caught (X:="StopIteration") (T:="StopIteration") (.inr rfl) e1 e2 e3 e4 (by rw [nm.sc]; rfl) X.stop (by decide +kernel) (by decide) (by decide) (isSubtype_of_subB (by decide +kernel)) (isSubtype_of_subB (by decide +kernel)) (isSubtype_of_subB (by decide +kernel)) λs3 E3 cx3 r3=>?_
   ((show let Q0:=_; wpAny _ _ _ Q0 _ _); intro Q0)
   have hee:∀b∈f.all (v::st'),b≠e:=λb hb z=>by
    obtain⟨o,eo⟩:=w1.sch.alloc b hb
    rw [z,en] at eo; cases eo
   have keep:∀b o,b∈f.all st'->s_1.heap.get? b=some o->s3.heap.get? b=some o:=λb o hb eb=>by
    have hb':b∈f.all (v::st'):=(all_cons b).mpr (.inl hb)
    have h:=off2 b o (λz=>nd2 v.it (by first | exact lm1 | exact lm2) (z ▸ hb)) eb
    have hWb:=w.sub b hb'
    exact(cx3.2 b o (hee b hb') h).2 (r.at.wf b hWb)
   have s1:Ints s3.heap f.a1 ((st'.map (·.k)).reverse++[v.k]):=by
    have:=w1.sch.stack.keeps (h':=s3.heap) λo=>keep _ o (by first | exact fm1 | exact fm2 | exact fm3 | exact fm4)
    simpa using this
   have s2:IsL s3.heap f.a2 (List.reverse (List.map (λ(v:Lv)=>Value.ref v.mw) st')++[Value.ref v.mw]).toArray mi:=by
    have:=keep _ _ (by first | exact fm1 | exact fm2 | exact fm3 | exact fm4) hits1
    simpa using this
   obtain⟨ts,q3,hd⟩:=w1.sch.dict
   obtain⟨t0,ts,rfl⟩:∃t0 ts',ts=t0::ts':=by
    cases ts with
    | nil=>simp at q3
    | cons a b=>exact⟨a,b,rfl⟩
   have q3:ts.length=st'.length:=by simpa using q3
   have s4:s3.heap.DictOf (intKind c.g.prog c.g.w) f.a4 (kvL (v::st') (t0::ts)):=by
    obtain⟨o,es,ep,eo,rr⟩:=hd
    exact⟨o,es,ep,keep _ _ (by first | exact fm1 | exact fm2 | exact fm3 | exact fm4) eo,rr⟩
   have W1:W_2 f.a1:=.inl (w.sub _ (by first | exact fm1 | exact fm2 | exact fm3 | exact fm4))
   have W2:W_2 f.a2:=.inl (w.sub _ (by first | exact fm1 | exact fm2 | exact fm3 | exact fm4))
   have W4:W_2 f.a4:=.inl (w.sub _ (by first | exact fm1 | exact fm2 | exact fm3 | exact fm4))
   have ndf:=nd1
   simp only [Four.all,List.nodup_cons,List.mem_cons,not_or] at ndf
   obtain⟨⟨n12,n13,n14,n1f⟩,⟨n23,n24,n2f⟩,⟨n34,n3f⟩,n4f,_⟩:=ndf
   refine wpAny_execs_cons (wpAny_Delete (wpAny_deleteEach_cons (delete_Subscript (r3.nameA nm.n2s (by decide) (MethodCall_ (r3.nameA nm.stack (by decide) ?_))))))
   ((show let Q0:=_; wpAny _ _ _ Q0 _ _); intro Q0)
   obtain⟨vs3,m3,i1,i2,i3⟩:=s1
   refine kS (g:=c.g) i1 PySem.F.slot_list_pop PySem.F.type_list_pop (callWith_builtin (aL rfl) (aK rfl (wpAny_items_nil (ints_pop (g:=c.g) ⟨vs3,m3,i1,i2,i3⟩ λtk h_4 hs4 hx4=>?_))))
   (show let Q0:=_; let s_4:Shared:=_; wpAny _ _ _ Q0 _ s_4); intro Q0 s_4
   have r4:Run _ _ _ _ _ s_4:=dW (tk:=s3.toks) r3 hs4 W1 (by obtain⟨vs,n,hh,_⟩:=hx4; exact⟨_,hh⟩)
   have s4':=s4.sameBut hs4 (λz=>n14 z.symm)
   have hval:(valueAt (kvL (v::st') (t0::ts)) v.k).isSome=true:=by
    rw [q8 _ _ (by simp [q3])]; simp
   have hkl:(kvL (v::st') (t0::ts)).length<=sizeLine:=by
    rw [yN _ _ (by simp [q3])]
    exact Nat.le_trans hsm (by decide)
   refine zQ (g:=c.g) s4' hval hkl λh5 hs5 hd5=>wpAny_deleteEach_nil ?_
   let s5:Shared:={ s3 with heap:=h5,toks:=s3.toks+1 }
   rw [kvL_pop q3 w.ks] at hd5
   have r5:Run _ _ _ _ _ s5:=dW (tk:=s3.toks+1) r4 hs5 W4 (by obtain⟨o,_,_,hh,_⟩:=hd5; exact⟨o,hh⟩)
   have hx5:Ints h5 f.a1 (st'.map (·.k)).reverse:=hx4.keeps λo eo=>(hs5.2 _ n14).trans eo
   have s2':IsL h5 f.a2 (List.reverse (List.map (λ(v:Lv)=>Value.ref v.mw) st')++[Value.ref v.mw]).toArray mi:=(hs5.2 _ n24).trans ((hs4.2 _ (λz=>n12 z.symm)).trans s2)
   refine wpAny_execs_cons (wpAny_Expr_any (prog:=c.g.prog) (w:=c.g.w) (MethodCall_ (r5.nameA nm.its (by decide) ?_)) r5.inter (aJ rfl _ _ _))
   refine kS (g:=c.g) s2' PySem.F.slot_list_pop PySem.F.type_list_pop (callWith_builtin (aL rfl) (aK rfl (wpAny_items_nil (pF (g:=c.g) s2' (by simp at hsm ⊢; grind) λh6 n6 hs6 hI6=>?_))))
   (show let Q0:=_; let s6:Shared:=_; wpAny _ _ _ Q0 _ s6); intro Q0 s6
   have r6:Run _ _ _ _ _ s6:=dW (tk:=s3.toks+1) r5 hs6 W2 ⟨_,hI6⟩
   have through:∀b o,b∈f.all st'->b≠f.a1->b≠f.a2->b≠f.a4->s_1.heap.get? b=some o->h6.get? b=some o:=λb o hb h1 h2 h4 eb=>(hs6.2 _ h2).trans ((hs5.2 _ h4).trans ((hs4.2 _ h1).trans (keep b o hb eb)))
   refine wpAny_execs_nil (wpAny_execs_nil (hQ _ _ ⟨st'.length,by simp,_,_,_,r6,st',rfl,?_,nm,⟨⟨hx5.keeps λo eo=>(hs6.2 _ n12).trans eo,⟨n6,hI6⟩,?_,⟨ts,q3,hd5.sameBut hs6 (λz=>n24 z.symm)⟩,λu hu=>w.sch.sub u (by simp [hu]),w.sch.sys,λu hu=>?_,nd1,by simp at hsm; (exact Nat.le_succ_of_le (by assumption))⟩,λb hb=>.inl (w.sub b ((all_cons b).mpr (.inl hb))),λu hu=>w.lean u (by simp [hu]),?_⟩⟩))
   ·rw [<- hu]
    show _=gK ((v.k,v.xs.drop v.i)::st'.map Lv.pl)
    rw [List.drop_eq_nil_of_le (by grind)]; rfl
   ·obtain⟨S,n,⟨o,es,ep,t,eo,rr⟩,q1',q2'⟩:=w1.sch.set
    exact⟨S,n,⟨o,es,ep,t,through _ _ (by first | exact fm1 | exact fm2 | exact fm3 | exact fm4) (λz=>n13 z.symm) (λz=>n23 z.symm) n34 eo,rr⟩,q1',q2'⟩
   ·have hm:∀b∈u.all,b∈st'.flatMap Lv.all:=λb hb=>List.mem_flatMap.mpr ⟨u,hu,hb⟩
    have thr:∀b∈u.all,∀o,s_1.heap.get? b=some o->h6.get? b=some o:=λb hb o=>through b o (fmL (hm b hb)) (λz=>n1f (z ▸ hm b hb)) (λz=>n2f (z ▸ hm b hb)) (λz=>n4f (z ▸ hm b hb))
    have:=w1.sch.lv u (by simp [hu])
    exact⟨thr _ (by first | exact lm1 | exact lm2) _ this.1,thr _ (by first | exact lm1 | exact lm2) _ this.2⟩
   ·have:=w.ks
    simp only [List.map_cons,List.nodup_cons] at this
    exact this.2
set_option backward.match.sparseCases false
theorem kP:∀{l m:List Int},l.Nodup->(∀x∈l,x∈m)->l.length<=m.length
 | [],_,_,_=>Nat.zero_le _
 | x::l,m,h,hs=>by
  have hx:=hs x (by simp)
  simp only [List.nodup_cons] at h
  have:=kP (l:=l) (m:=m.erase x) h.2 λy hy=>(List.mem_erase_of_ne (λz=>h.1 (by rw [<- z]; exact hy))).mpr (hs y (by simp [hy]))
  rw [List.length_erase_of_mem hx] at this
  have hp:=List.length_pos_of_mem hx
  simp only [List.length_cons]
  grind
structure SeenOk (σ:SS) (seen:List Int):Prop where
 nd:seen.Nodup
 has:∀x∈seen,σ.has x=true
theorem has_mem {x:Int}(h:σ.has x=true):x∈σ.nodes.map (·.id):=by
 obtain⟨i,nd,h1,h2⟩:=has_iff.mp h
 exact List.mem_map.mpr ⟨nd,List.mem_of_getElem? h1,h2⟩
theorem SeenOk.len {seen:List Int}(x:SeenOk σ seen)(hb:σ.nodes.length<=1000):seen.length<=1000:=by
 have:=kP x.nd λy hy=>has_mem (x.has y hy)
 rw [List.length_map] at this
 (exact Nat.le_trans (by assumption) (by assumption))
noncomputable def pushB:List Stmt:=stElse ((fJ sL).getD 0 (.Break default))
theorem uJ {W:Avoid}{f:Four}{st:List Lv}{seen:List Int}{x:Int}{Q:Flow->Shared->Prop}(r:Run c O No W V s)(X:CycX c T l σ)(TK:TopoOk c.g.K T)(N:Names c.g)(hiter:Callee c.g "iter" (.builtin "iter"))(nm:CycN f l V)(w:CycW c.g l σ f st seen W s.heap)(so:SeenOk σ seen)(hnode:V.is "node" (.int x))(hx:σ.has x=true)(hns:seen.contains x=false)
  (q:∀(v:Lv) O' W' s',v.pl=(x,σ.succOf x)->Run c O' No W' V s'->CycW c.g l σ f (v::st) (x::seen) W' s'.heap->SeenOk σ (x::seen)->Q .next s') :
  wpAny c.g.M c.Ar (execs pushB c.env) Q E s:=by
 conv in pushB=>whnf
 have ndf:=w.sch.nd
 simp only [Four.all,List.nodup_cons,List.mem_cons,not_or] at ndf
 obtain⟨⟨n12,n13,n14,n1f⟩,⟨n23,n24,n2f⟩,⟨n34,n3f⟩,n4f,nff⟩:=ndf
 have W1:W f.a1:=w.sub _ (by first | exact fm1 | exact fm2 | exact fm3 | exact fm4)
 have W2:W f.a2:=w.sub _ (by first | exact fm1 | exact fm2 | exact fm3 | exact fm4)
 have W3:W f.a3:=w.sub _ (by first | exact fm1 | exact fm2 | exact fm3 | exact fm4)
 have W4:W f.a4:=w.sub _ (by first | exact fm1 | exact fm2 | exact fm3 | exact fm4)
 have S:=X.now r
 have so':SeenOk σ (x::seen):=⟨List.nodup_cons.mpr ⟨λh=>(by rw [List.contains_iff_mem.mpr h] at hns; cases hns),so.nd⟩,λy hy=>by
  rcases List.mem_cons.mp hy with rfl | hy
  ·exact hx
  ·exact so.has y hy⟩
 have slen':=so'.len S.big
 rw [List.length_cons] at slen'
 have slen:=so.len S.big
 have hlen:st.length<=seen.length:=by
  have:=kP w.ks (m:=seen) λy hy=>by
   obtain⟨v,hv,e⟩:=List.mem_map.mp hy
   have:=w.sch.sub v hv
   rw [e] at this
   simpa using this
  simpa using this
 have hxs:x∉st.map (·.k):=λhm=>by
  obtain⟨v,hv,e⟩:=List.mem_map.mp hm
  have:=w.sch.sub v hv
  rw [e,hns] at this; cases this
 obtain⟨jn,a,nd,g1,g2,hid⟩:=S.at hx
 obtain⟨SS0,n0,hS,hS1,hS2⟩:=w.sch.set
 refine wpAny_execs_cons (wpAny_Expr_any (prog:=c.g.prog) (w:=c.g.w) (MethodCall_ (r.nameA nm.seen (by decide) (getMethod_set_add hS (callWith_builtin (aL rfl) (aK rfl (wpAny_items_cons (r.name hnode (by decide) λv rv=>wpAny_items_nil ?_) rfl)))))) r.inter (aJ rfl _ _ _))
 obtain⟨t1,rfl⟩:=aH rv
 refine call_set_add (intKind_is c.g.prog c.g.w x t1) rfl hS (by have:scanBound=4096:=rfl; grind) λh_1 hs1 hS_1=>?_
 (show let Q0:=_; let s_1:Shared:=_; wpAny _ _ _ Q0 _ s_1); intro Q0 s_1
 have r1:Run _ _ _ _ _ s_1:=dW (tk:=s.toks+1) r hs1 W3 (by obtain⟨o,_,_,_,e,_⟩:=hS_1; exact⟨o,e⟩)
 have S1:=X.now r1
 have hset:(SS0 x)=false:=by rw [hS1]; exact hns
 rw [hset,if_neg (by decide)] at hS_1
 obtain⟨mi,hits⟩:=w.sch.its
 have hits1:IsL h_1 f.a2 _ mi:=(hs1.2 _ n23).trans hits
 refine wpAny_execs_cons (wpAny_Expr_any (prog:=c.g.prog) (w:=c.g.w) (MethodCall_ (r1.nameA nm.its (by decide) (kS (g:=c.g) hits1 PySem.F.slot_list_append PySem.F.type_list_append (callWith_builtin (aL rfl) (aK rfl (wpAny_items_cons ?_ rfl)))))) r1.inter (aJ rfl _ _ _))
 cases hiter with
 | bt b1 b2 b3 =>
 refine Attribute_any_ (Call_ (aT r1.act.up r1.act.eo (by rw [nm.sc]; rfl) b1 b2 b3 (by decide) (callWith_builtin (aL rfl) (aK rfl (wpAny_items_cons (Attribute_any_ (r1.e0 (zK (S1.now _) (bE (k:=0) nm.n2i rfl) (bE (k:=0) hnode rfl) rfl g1 g2 hid) λv s2 k2 rv r2=>?_)) rfl)))))
 have:=aU rv; subst this
 have S2:=X.now r2
 have N2:=S2.nds jn a nd g1 g2
 refine zA N2 r2.now TK (wpAny_items_nil ?_)
 ((show let Q0:=_; wpAny _ _ _ Q0 _ _); intro Q0)
 obtain⟨us,m',i1,i2,i3⟩:=N2.2.2
 refine qF (g:=c.g) (s:={ s2 with toks:=s2.toks+1 }) i1 ?_
 have hsz3:(s2.heap.push (dG a.suc 0)).objs.size=s2.heap.objs.size+1:=Heap.size_push ..
 refine pV (l:=a.suc) (i:=0) (Heap.get?_push_size _ rfl) (wpAny_items_nil ?_)
 have k4:Keeps s2 { s2 with heap:=(s2.heap.push (dG a.suc 0)).push (dU s2.heap.objs.size),toks:=s2.toks+1+1 }:=⟨_,_,rfl,λb o e=>Heap.get?_push_of_some _ (Heap.get?_push_of_some _ e)⟩
 have hit4:((s2.heap.push (dG a.suc 0)).push (dU s2.heap.objs.size)).get? s2.heap.objs.size=some (dG a.suc 0):=Heap.get?_push_of_some _ (Heap.get?_push_size _ rfl)
 have hmw4:((s2.heap.push (dG a.suc 0)).push (dU s2.heap.objs.size)).get? (s2.heap.push (dG a.suc 0)).objs.size=some (dU s2.heap.objs.size):=Heap.get?_push_size _ rfl
 have new1:s2.heap.get? s2.heap.objs.size=none:=bZ (aD s2)
 have new2:s2.heap.get? (s2.heap.push (dG a.suc 0)).objs.size=none:=cJ (aD s2) (by rw [hsz3]; exact Nat.le_succ _)
 have nit:(s2.heap.push (dG a.suc 0)).objs.size≠s2.heap.objs.size:=by rw [hsz3]; exact Nat.succ_ne_self _
 generalize (s2.heap.push (dG a.suc 0)).objs.size=mw at hmw4 new2 nit ⊢
 generalize s2.heap.objs.size=it at hit4 hmw4 new1 nit k4 ⊢
 generalize (s2.heap.push (dG a.suc 0)).push (dU it)=h4 at hit4 hmw4 k4 ⊢
 revert k4
 revert hmw4
 revert hit4
 revert nit
 revert new2
 revert new1
 revert h4
 revert it
 revert mw
 refine id ?_
 intro mw it h4 new1 new2 nit hit4 hmw4 k4
 (show let Q0:=_; let s4:Shared:=_; wpAny _ _ _ Q0 _ s4); intro Q0 s4
 have hits4:IsL h4 f.a2 _ mi:=aA k4 _ _ (aA k2 _ _ hits1)
 let W':Avoid:=λb=>W b\/b=it\/b=mw
 have r4:Run c _ No W' V s4:=r2.eff (W':=W') (.of_keeps k4) (λzw h=>.inl h) (λb hb=>by
  rcases hb with hb | rfl | rfl
  ·exact .inl hb
  ·exact .inr new1
  ·exact .inr new2) λb hb=>by
   rcases hb with hb | rfl | rfl
   ·obtain⟨o,e⟩:=r2.act.aO b (r2.wo b hb); exact⟨o,aA k4 _ _ e⟩
   ·exact⟨_,hit4⟩
   ·exact⟨_,hmw4⟩
 refine append_at (prog:=c.g.prog) (w:=c.g.w) (s:=s4) hits4 (λh5 hs5 he5=>?_) (by
  rw [List.size_toArray,List.length_reverse,List.length_map]
  exact Nat.le_trans (show st.length<=1000 by (exact Nat.le_trans (by assumption) (by assumption))) (by decide))
 (show let Q0:=_; let s5:Shared:=_; wpAny _ _ _ Q0 _ s5); intro Q0 s5
 have r5:Run _ _ _ _ _ s5:=dW (tk:=s2.toks+1+1) r4 hs5 (.inl W2) ⟨_,he5⟩
 have old:∀b o,W b->s2.heap.get? b=some o->b≠it/\b≠mw:=λb o zw e=>⟨λz=>(by rw [z,new1] at e; cases e),λz=>(by rw [z,new2] at e; cases e)⟩
 have ne_of:∀b,W b->b≠it/\b≠mw:=λb hb=>by
  obtain⟨o,e⟩:=r2.act.aO b (r2.wo b hb)
  exact old b o hb e
 have st5:Ints h5 f.a1 (st.map (·.k)).reverse:=w.sch.stack.keeps λo p1=>(hs5.2 _ n12).trans (aA k4 _ _ (aA k2 _ _ ((hs1.2 _ n13).trans p1)))
 obtain⟨vs5,m5,y1,y2,y3⟩:=st5
 have hc:cap=100000:=rfl
 have l5:=y3.length
 rw [Array.length_toList,List.length_map,List.length_reverse,List.length_map] at l5
 cases N.len with
 | bt c1 c2 c3 =>
 refine wpAny_execs_cons (wpAny_Assign_Subscript (Call_ (aT r5.act.up r5.act.eo (by rw [nm.sc]; rfl) c1 c2 c3 (by decide) (callWith_builtin (aL rfl) (aK rfl (wpAny_items_cons (r5.nameA nm.stack (by decide) (wpAny_items_nil (call_len_list (IsL.isList y1) (by grind) ?_))) rfl))))) (aJ rfl _ _ _))
 rw [l5]
 (show let Q0:=_; let s6:Shared:=_; wpAny _ _ _ Q0 _ s6); intro Q0 s6
 have r5:Run _ _ _ _ _ s6:=r5.toks (s2.toks+1+1+1+1)
 obtain⟨ts,q3,hd⟩:=w.sch.dict
 have hd5:Heap.DictOf (intKind c.g.prog c.g.w) h5 f.a4 (kvL st ts):=(((hd.sameBut hs1 (λz=>n34 z.symm)).keep (aA k2)).keep (aA k4)).sameBut hs5 (λz=>n24 z.symm)
 refine r5.nameA nm.n2s (by decide) (r5.name hnode (by decide) λv rv=>?_)
 ((show let Q0:=_; wpAny _ _ _ Q0 _ _); intro Q0)
 obtain⟨t6,rfl⟩:=aH rv
 refine wpAny_setItem_pairs (intKind_is c.g.prog c.g.w x t6) hd5 (λh6 hd6 hs6=>?_) (by rw [yN _ _ q3]; exact Nat.le_trans (show st.length<=1000 by (exact Nat.le_trans (by assumption) (by assumption))) (by decide))
 rw [kvL_push q3 hxs] at hd6
 (show let Q0:=_; let s7:Shared:=_; wpAny _ _ _ Q0 _ s7); intro Q0 s7
 have r6:Run _ _ _ _ _ s7:=dW (tk:=s2.toks+1+1+1+1+1) r5 hs6 (.inl W4) (by obtain⟨o,_,_,e,_⟩:=hd6; exact⟨o,e⟩)
 have st6:Ints h6 f.a1 (st.map (·.k)).reverse:=Ints.keeps ⟨vs5,m5,y1,y2,y3⟩ λo e=>(hs6.2 _ n14).trans e
 refine wpAny_execs_cons (wpAny_Expr_any (prog:=c.g.prog) (w:=c.g.w) (MethodCall_ (r6.nameA nm.stack (by decide) (pT (g:=c.g) st6 (callWith_builtin (aL rfl) (aK rfl (wpAny_items_cons (r6.name hnode (by decide) λv rv=>wpAny_items_nil ?_) rfl)))))) r6.inter (aJ rfl _ _ _))
 obtain⟨t7,rfl⟩:=aH rv
 refine kT (g:=c.g) st6 (by simp; grind) λh7 hs7 hx7=>wpAny_execs_nil ?_
 (show let s8:Shared:=_; Q .next s8); intro s8
 have r7:Run _ _ _ _ _ s8:=dW (tk:=s2.toks+1+1+1+1+1) r6 hs7 (.inl W1) (by obtain⟨_,_,e,_⟩:=hx7; exact⟨_,e⟩)
 let v:Lv:=⟨x,mw,it,a.suc,0,nd.succ⟩
 have fin:∀b o,b≠f.a1->b≠f.a2->b≠f.a4->h4.get? b=some o->h7.get? b=some o:=λb o h1 h2 h4' e=>(hs7.2 _ h1).trans ((hs6.2 _ h4').trans ((hs5.2 _ h2).trans e))
 have four:∀b,W b->b≠it/\b≠mw:=ne_of
 refine q v _ _ _ ?_ r7 ⟨⟨?_,⟨mi+1,?_⟩,?_,⟨(s2.toks+1+1+1)::ts,by simp [q3],?_⟩,?_,w.sch.sys,?_,?_,by simp; grind⟩,?_,?_,?_⟩ so'
 ·show(x,nd.succ.drop 0)=_
  rw [List.drop_zero,<- hid,suc_of S.ids g2]
 ·simpa using hx7
 ·have:IsL h7 f.a2 _ _:=(hs7.2 _ (λz=>n12 z.symm)).trans ((hs6.2 _ n24).trans he5)
  simpa using this
 ·refine⟨λk'=>SS0 k' || decide (k'=x),n0+1,?_,λk'=>?_,?_⟩
  ·obtain⟨o,es,ep,t,e,rr⟩:=hS_1
   exact⟨o,es,ep,t,fin _ _ (λz=>n13 z.symm) (λz=>n23 z.symm) n34 (aA k4 _ _ (aA k2 _ _ e)),rr⟩
  ·show(SS0 k' || decide (k'=x))=_
   rw [hS1,List.contains_cons,Bool.or_comm]
   rfl
  ·show n0+1<=(x::seen).length
   simp; assumption
 ·show Heap.DictOf _ h7 f.a4 (kvL st ts++[(x,.int st.length _)])
  exact hd6.sameBut hs7 (λz=>n14 z.symm)
 ·intro u hu
  rcases List.mem_cons.mp hu with rfl | hu
  ·simp [v]
  ·rw [List.contains_cons,w.sch.sub u hu,Bool.or_true]
 ·intro u hu
  rcases List.mem_cons.mp hu with rfl | hu
  ·exact⟨fin _ _ (λz=>(four _ W1).2 z.symm) (λz=>(four _ W2).2 z.symm) (λz=>(four _ W4).2 z.symm) hmw4,fin _ _ (λz=>(four _ W1).1 z.symm) (λz=>(four _ W2).1 z.symm) (λz=>(four _ W4).1 z.symm) hit4⟩
  ·have hm:∀b∈u.all,b∈st.flatMap Lv.all:=λb hb=>List.mem_flatMap.mpr ⟨u,hu,hb⟩
   have thr:∀b∈u.all,∀o,s.heap.get? b=some o->h7.get? b=some o:=λb hb o e=>fin b o (λz=>n1f (z ▸ hm b hb)) (λz=>n2f (z ▸ hm b hb)) (λz=>n4f (z ▸ hm b hb)) (aA k4 _ _ (aA k2 _ _ ((hs1.2 _ (λz=>n3f (z ▸ hm b hb))).trans e)))
   have:=w.sch.lv u hu
   exact⟨thr _ (by first | exact lm1 | exact lm2) _ this.1,thr _ (by first | exact lm1 | exact lm2) _ this.2⟩
 ·have hin:∀b∈st.flatMap Lv.all,W b:=λb hb=>w.sub b (by simp [Four.all,hb])
  simp only [Four.all,List.flatMap_cons,List.nodup_cons,List.mem_cons,List.mem_append,not_or,Lv.all,List.not_mem_nil,or_false,List.cons_append,List.nil_append]
  refine⟨⟨n12,n13,n14,(four _ W1).2,(four _ W1).1,n1f⟩,⟨n23,n24,(four _ W2).2,(four _ W2).1,n2f⟩,⟨n34,(four _ W3).2,(four _ W3).1,n3f⟩,⟨(four _ W4).2,(four _ W4).1,n4f⟩,⟨nit,λz=>(four _ (hin _ z)).2 rfl⟩,λz=>(four _ (hin _ z)).1 rfl,nff⟩
 ·intro b hb
  rcases(all_cons b).mp hb with hb | hb
  ·exact .inl (w.sub b hb)
  ·simp only [Lv.all,List.mem_cons,List.not_mem_nil,or_false] at hb
   rcases hb with rfl | rfl
   ·exact .inr (.inr rfl)
   ·exact .inr (.inl rfl)
 ·intro u hu
  rcases List.mem_cons.mp hu with rfl | hu
  ·exact⟨jn,a,nd,g1,g2,rfl,rfl,hid.symm⟩
  ·exact w.lean u hu
 ·simp only [List.map_cons,List.nodup_cons]
  exact⟨hxs,w.ks⟩
set_option backward.match.sparseCases true
theorem sJ {α:Type}(l:List α):∀(n a:Nat),a+n<=l.length->((List.range n).map (λk=>a+k)).filterMap (l[·]?)=(l.drop a).take n
 | 0,a,h=>by simp
 | n+1,a,h=>by
  rw [List.range_succ,List.map_append,List.filterMap_append,sJ l n a (by (exact Nat.le_of_lt (by assumption))),List.take_add_one,List.getElem?_drop]
  have:a+n < l.length:=by assumption
  simp [this]
theorem gO (xs:List D)(j:Nat)(h:j<=xs.length):dK xs (some j) none none=xs.drop j:=by
 unfold dK
 rw [sliceBounds_plain]
 have e:clipAt xs.length (j:Int)=j:=by
  have:=clipAt_cast xs.length (j:Int)
  rw [if_neg (by (simp +arith))] at this
  grind
 show((sliceRange ((clipAt xs.length (j:Int):Nat):Int) ((xs.length:Nat):Int) 1).filterMap (xs[·]?))=_
 rw [e,sliceRange_one,sJ xs _ _ (by grind)]
 exact List.take_of_length_le (by simp)
section
theorem vI {lo hi st:Option Expr}{r:Addr}{xs:List Int}{l h t:Option Int}{ka:Nat}(X:Ints g.h r xs)(x:EvS g n V e (objD r) ka)(hl:i0 g n V lo l)(hh:i0 g n V hi h)(ht:i0 g n V st t)(h0:t≠some 0) :
  EvS g n V (.Subscript e (.Slice lo hi st p) pos) (.list (dK (xs.map .int) l h t)) k:=by
 intro O M env A s E u rm aO aM eo
 refine Subscript_ (x.use u rm aO aM eo λva s_1 k1 r1 u1 o1 m1 e1=>wpAny_Slice (d3 hl u1 rm o1 m1 e1 λvl s2 k2 p2 u2 o2 m2 e2=>d3 hh u2 rm o2 m2 e2 λvh s3 k3 p3 u3 o3 m3 e3=>d3 ht u3 rm o3 m3 e3 λvt s4 k4 p4 u4 o4 m4 e4=>?_))
 ((show let Q0:=_; wpAny _ _ _ Q0 _ _); intro Q0)
 have k5:Keeps s_1 { s4 with heap:=s4.heap.push { cls:=.type "slice",data:=.fields #[vl,vh,vt] } }:=aB k2 (aB k3 (aB k4 (aI s4 _ _)))
 have:=aU r1; subst this
 obtain⟨vs,m,h2,h1,h3'⟩:=X.keeps (h':=s_1.heap) λo=>u1 _ o
 have h2:=aA k5 _ _ h2
 obtain⟨ys,q1,q2⟩:=cG h3'
 obtain⟨ops,hops⟩:=cV (lo:=lo) (hi:=hi) (st:=st) (p:=p) (.ref r) (.ref s4.heap.objs.size)
 have h3:Rds O M (({ s4 with heap:=s4.heap.push { cls:=.type "slice",data:=.fields #[vl,vh,vt] } }:Shared).heap) (k - 1) vs.toList (xs.map .int):=by
  rw [q1,<- q2]; exact bH ys
 have sz:=h3.length
 rw [Array.length_toList] at sz
 refine tail_any (T:="list") ⟨_,h2,rfl⟩ slot_list_getitem.lookup (wpAny_getItem_list_slice (IsL.isList h2) (Heap.IsSliceOf.new ..) p2 p3 p4 h0 ⟨aB k1 (aB k5 (aI _ _ _)),?_⟩ (Nat.le_trans h1 bI)) hops
 refine dS ((o1.keeps k5)) ((m1.keeps k5)) (Nat.le_trans (slicePick_size_le ..) h1) ?_
 unfold slicePick dK
 rw [<- sz]
 have e:((sliceRange (sliceBounds l h t vs.size).1 (sliceBounds l h t vs.size).2.1 (sliceBounds l h t vs.size).2.2).filterMap (vs[·]?)).toArray.toList=(sliceRange (sliceBounds l h t vs.size).1 (sliceBounds l h t vs.size).2.1 (sliceBounds l h t vs.size).2.2).filterMap (vs.toList[·]?):=by
  simp
 rw [e]
 exact h3.pick _
theorem vG {i:Expr}{d:Addr}{kvs:List (Int×Value)}{x j:Int}{t:Tok}{ka kb:Nat}(X:g.h.DictOf (intKind g.prog g.w) d kvs)(hv:valueAt kvs x=some (.int j t))(ev:EvS g n V e (objD d) ka)(ei:EvS g n V i (.int x) kb)(hs:SubS.notSlice i=true) :
  EvS g n V (.Subscript e i pos) (.int j) k:=by
 intro O M env A s E u rm aO aM eo
 refine Subscript_ (ev.use u rm aO aM eo λva s_1 k1 r1 u1 o1 m1 e1=>ei.use u1 rm o1 m1 e1 λvb s2 k2 r2 u2 o2 m2 e2=>?_)
 have:=aU r1; subst this
 obtain⟨t',rfl⟩:=aH r2
 have X2:s2.heap.DictOf (intKind g.prog g.w) d kvs:=by
  obtain⟨o,es,ep,eo,rr⟩:=X
  exact⟨o,es,ep,u2 _ _ eo,rr⟩
 refine tail_any (T:="dict") X2.typeIs PySem.F.slot_dict_getitem.lookup (wpAny_getItem_of (intKind_is g.prog g.w x t') X2.mapOf hv ?_) (aS hs _ _)
 exact⟨aB k1 (aB k2 (aG _ _)),.int⟩
end
theorem pl_any (st:List Lv)(x:Int):(st.map Lv.pl).any (λp=>p.1==x)=st.any (λv=>v.k==x):=by
 rw [List.any_map]; rfl
theorem pl_ks (st:List Lv):(st.map Lv.pl).map (·.1)=st.map (·.k):=by
 rw [List.map_map]; rfl
theorem qR {go:List (Int×List Int)->List Int->Int->Option (List Int ⊕ List Int)}{stk:List (Int×List Int)}{seen:List Int}{res:List Int ⊕ List Int}(h:eQ go stk seen=some res):(∀x st',gK stk=some (x,st')->go st' seen x=some res)/\(gK stk=none->res=.inr seen):=by
 unfold eQ at h
 exact⟨λx st' e=>by rw [e] at h; exact h,λe=>by rw [e] at h; exact(Option.some.inj h).symm⟩
theorem xH {succ:Int->List Int}{st:List Lv}{seen:List Int}{x:Int}{res:List Int ⊕ List Int}(h:fA succ n (st.map Lv.pl) seen x=some res) :
  ∃i,n=i+1/\(seen.contains x=false->eQ (fA succ i) ((x,succ x)::st.map Lv.pl) (x::seen)=some res)/\(seen.contains x=true->((st.any λv=>v.k==x)=false->eQ (fA succ i) (st.map Lv.pl) seen=some res)/\((st.any λv=>v.k==x)=true->res=.inl ((st.map (·.k)).reverse.dropWhile (λy=>y != x)++[x]))):=by
 cases n with
 | zero=>cases h
 | succ i =>
 unfold fA at h
 refine⟨i,rfl,λe=>?_,λe=>?_⟩
 ·rw [e,if_neg (by decide)] at h; exact h
 ·rw [e,if_pos rfl,pl_any,pl_ks] at h
  exact⟨λe2=>by rw [e2,if_neg (by decide)] at h; exact h,λe2=>by rw [e2,if_pos rfl] at h; exact(Option.some.inj h).symm⟩
theorem uN {W:Avoid}{f:Four}{st:List Lv}{seen:List Int}{x:Int}{res:List Int ⊕ List Int}{Q:Flow->Shared->Prop}(r:Run c O No W V s)(X:CycX c T l σ)(TK:TopoOk c.g.K T)(N:Names c.g)(hiter:Callee c.g "iter" (.builtin "iter"))(nm:CycN f l V)(w:CycW c.g l σ f st seen W s.heap)(so:SeenOk σ seen)(hnode:V.is "node" (.int x))(hx:σ.has x=true)
  (hgo:fA σ.succOf n (st.map Lv.pl) seen x=some res)
  (q1:∀v rr O' W' V' s',res=.inl rr->Run c O' No W' V' s'->Rd O' No s'.heap 0 v (.list (rr.map .int))->Q (.ret v) s')
  (q2:∀seen' O' W' V' s',res=.inr seen'->Run c O' No W' V' s'->CycN f l V'->CycW c.g l σ f [] seen' W' s'.heap->SeenOk σ seen'->Q .next s') :
  wpAny c.g.M c.Ar (exec sL c.env) Q E s:=by
 conv in sL=>whnf
 refine r.whileL (λn W V s=>∃st seen x,fA σ.succOf n (st.map Lv.pl) seen x=some res/\CycN f l V/\CycW c.g l σ f st seen W s.heap/\SeenOk σ seen/\V.is "node" (.int x)/\σ.has x=true) n ⟨st,seen,x,hgo,nm,w,so,hnode,hx⟩ ?_
 clear hgo nm w so hnode hx r
 intro i O' W' V' s' E' hJ r
 refine r.test (b:=true) (fZ (d:=.bool true) (k:=0) zL rfl rfl) λs_1 k1 r1=>?_
 refine(if_pos rfl).mpr (wp_q λQ' hQ=>?_)
 ((show let Q0:=_; wpAny _ _ _ Q0 _ _); intro Q0)
 obtain⟨st,seen,x,hgo,nm,w,so,hnode,hx⟩:=hJ
 obtain⟨i,rfl,hpush,hstay⟩:=xH hgo
 have w1:CycW c.g l σ f st seen W' s_1.heap:=w.keeps λb o zw=>aA k1 b o
 have fin:∀{st':List Lv} {seen':List Int} {O'' W'':Avoid} {s2:Shared},Run c O'' No W'' V' s2->CycW c.g l σ f st' seen' W'' s2.heap->SeenOk σ seen'->eQ (fA σ.succOf i) (st'.map Lv.pl) seen'=some res->wpAny c.g.M c.Ar (execs [yY] c.env) Q' E' s2:=λ{st' seen' O'' W'' s2} r2 w2 so2 hn=>by
  obtain⟨hn1,hn2⟩:=qR hn
  refine wpAny_execs_cons (vF r2 X nm w2 (λx' st'' O3 W3 V3 s3 hu hh r3 nm3 hnode3 w3=>?_) λO3 W3 V3 s3 hu r3 nm3 w3=>?_)
  ·exact wpAny_execs_nil (hQ _ _ ⟨i,by (exact Nat.lt_succ_self _),_,_,_,r3,st'',seen',x',hn1 _ _ hu,nm3,w3,so2,hnode3,hh⟩)
  ·exact hQ _ _ (q2 _ _ _ _ _ (hn2 hu) r3 nm3 w3 so2)
 obtain⟨SS0,n0,hS,hS1,hS2⟩:=w1.sch.set
 refine wpAny_execs_cons (wpAny_If (wpAny_isTrue_Compare1 (r1.name hnode (by decide) λv rv=>r1.nameA nm.seen (by decide) ?_) rfl))
 ((show let Q0:=_; wpAny _ _ _ Q0 _ _); intro Q0)
 obtain⟨t1,rfl⟩:=aH rv
 refine wpAny_inSet_of (intKind_is c.g.prog c.g.w x t1) rfl hS (wpAny_truthy_bool ?_)
 rw [hS1]
 have r2:=r1.toks (s_1.toks+1)
 cases hsn:seen.contains x with
 | false =>
  refine(if_neg (by decide)).mpr ?_
  exact uJ r2 X TK N hiter nm w1 so hnode hx hsn λv O3 W3 s3 hv r3 w3 so3=>fin r3 w3 so3 (by rw [List.map_cons,hv]; exact hpush hsn)
 | true =>
  refine(if_pos rfl).mpr ?_
  obtain⟨hgo,hrg⟩:=hstay hsn
  obtain⟨ts,q3,hd⟩:=w1.sch.dict
  refine wpAny_execs_cons (wpAny_If (wpAny_isTrue_Compare1 (r2.name hnode (by decide) λv rv=>r2.nameA nm.n2s (by decide) ?_) rfl))
  ((show let Q0:=_; wpAny _ _ _ Q0 _ _); intro Q0)
  obtain⟨t2,rfl⟩:=aH rv
  refine wpAny_in_of (intKind_is c.g.prog c.g.w x t2) w1.sch.sys hd.mapOf (wpAny_truthy_bool ?_)
  rw [q8 _ _ q3]
  have r3:=r2.toks (s_1.toks+1+1)
  cases hst:st.any (λv=>v.k==x) with
  | false =>
   refine(if_neg (by decide)).mpr ?_
   exact wpAny_execs_nil (wpAny_execs_nil (fin r3 w1 so (hgo hst)))
  | true =>
   refine(if_pos rfl).mpr ?_
   obtain⟨j,tj,h1,h2,h3⟩:=kvL_at st ts q3 x hst w.ks
   have hcap:cap=100000:=rfl
   have hsm:=w.sch.small
   have st3:Ints s_1.heap f.a1 (st.map (·.k)).reverse:=w1.sch.stack
   have hj:j<=((st.map (·.k)).reverse.map (λi=>(PyData.int i:D))).length:=by simp; (exact Nat.le_of_lt (by assumption))
   refine wpAny_execs_cons (wpAny_Return_some (r3.e0 (ev_bin (ka:=0) (kb:=0) (vI (l:=some (j:Int)) (h:=none) (t:=none) (st3) (bE nm.stack (by decide)) ⟨0,vG (kvs:=kvL st ts) hd h1 (bE nm.n2s (by decide)) (bE hnode (by decide)) rfl⟩ rfl rfl (by decide)) (jB (cQ (bE hnode (by decide)) dX rfl) (by show 1<=cap; decide)) (mW ?_ (by decide) (by decide))) λv s4 k4 rv r4=>?_))
   ·rw [gO _ _ hj]
    simp; omega
   ·rw [gO _ _ hj,<- List.map_drop,h3] at rv
    refine hQ (.ret v) _ (q1 v _ _ _ _ _ (hrg hst) r4 ?_)
    rw [List.map_append]
    exact rv
theorem vB {X:Avoid}{kvs:List (Int×Value)}(ev:EvS g n V e (objD a) k)(hsys:(a==sysModules)=false)(I:g.h.DictOf (intKind g.prog g.w) a kvs)(hXa:X a):IterX g n X V false e ((kvs.map (·.1)).map .int):=by
 intro O M env A s E Q u rm aO aM eo hXM q
 refine ev.use u rm aO aM eo λv sa k1 r1 u1 o1 m1 e1=>?_
 have:=aU r1; subst this
 obtain⟨ep,D0⟩:=I.dictAt
 have D1:=D0.keep (h':=sa.heap) λb o=>u1 b o
 have k2:Keeps sa { sa with heap:=sa.heap.push { cls:=.type "dict_keyiterator",data:=.fields #[.ref a,.int 0 0,.int kvs.length 0,.int ep 0] } }:=aI sa _ _
 have hne:a≠sa.heap.objs.size:=λz=>by
  have:=D1.lt_size
  rw [<- z] at this
  exact absurd this (Nat.lt_irrefl _)
 refine wpAny_pyIter_dict hsys D1 (q _ _ (λb=>b=sa.heap.objs.size) (λi h=>h.IsKeyIter sa.heap.objs.size a i kvs.length ep/\h.DictAt (intKind g.prog g.w) a kvs ep) (aB k1 k2) ⟨⟨⟨_,Heap.get?_push_size _ rfl,rfl,rfl⟩,D1.keep (aA k2)⟩,λb hb=>by subst hb; exact⟨bZ k1,_,Heap.get?_push_size _ rfl⟩,λi h st b hb=>by
   subst hb
   obtain⟨o,ho,hc,hd⟩:=st.1
   exact⟨o,ho,by unfold isFS; rw [hd]⟩,λi h h' st hk=>?_,?_,?_⟩)
 ·obtain⟨⟨o,ho,hr⟩,⟨od,es,hod,rr⟩⟩:=st
  have ha:∃o',(sa.heap.push { cls:=.type "dict_keyiterator",data:=.fields #[.ref a,.int 0 0,.int kvs.length 0,.int ep 0] }).get? a=some o':=by
   obtain⟨o',_,h',_⟩:=D1.keep (aA k2)
   exact⟨o',h'⟩
  exact⟨⟨o,hk _ _ (.inl o1.new) m1.new ⟨_,Heap.get?_push_size _ rfl⟩ ho,hr⟩,⟨od,es,hk _ _ (.inr hXa) (hXM a hXa) ha hod,rr⟩⟩
 ·intro O' M' i d t target E' Q' wd' wd htg hd st aO' aM' q'
  rw [List.getElem?_map,Option.map_eq_some_iff] at hd
  obtain⟨x,hx,rfl⟩:=hd
  rw [List.getElem?_map,Option.map_eq_some_iff] at hx
  obtain⟨⟨x',v⟩,hx,rfl⟩:=hx
  refine wpAny_pyNext_dict_item st.1 st.2 hx λkey h' hkey hit' hs'=>⟨_,rfl,?_⟩
  obtain⟨tk,rfl⟩:=Value.isInt_shape hkey
  exact cC htg (q' _ { t with heap:=h' } ⟨⟨h',t.toks,rfl⟩,λb o hb e=>hs'.extBut b o hb e⟩ .int ⟨hit',st.2.extBut hs'.extBut hne⟩)
 ·intro t E' Q' st q'
  exact wpAny_pyNext_dict_end rm.handled st.1 st.2 (by simp) λh' he'=>q' _ ⟨⟨h',t.toks,rfl⟩,λb o hb e=>he' b o hb e⟩
theorem Run.grow {W:Avoid}(r:Run c O M W V s)(k:Keeps s s')(hn:s.heap.get? a=none)(ha:∃o,s'.heap.get? a=some o):Run c (λb=>O b\/(W b\/b=a)) M (λb=>W b\/b=a) V s' :=
 r.eff (W':=λb=>W b\/b=a) (.of_keeps k) (λzw h=>.inl h) (λb hb=>by
  rcases hb with hb | rfl
  ·exact .inl hb
  ·exact .inr hn) λb hb=>by
   rcases hb with hb | rfl
   ·obtain⟨o,e⟩:=r.act.aO b (r.wo b hb); exact⟨o,aA k _ _ e⟩
   ·exact ha
theorem uX:∀{ns:List NdA} {nodes:List Nd},ns.length=nodes.length->(cK ns nodes).map (·.1)=nodes.map (·.id):=by
 intro ns
 induction ns with
 | nil=>intro nodes h; cases nodes with
  | nil=>rfl
  | cons _ _=>simp at h
 | cons a ns ih=>intro nodes h; cases nodes with
  | nil=>simp at h
  | cons nd nodes =>
   have:=ih (nodes:=nodes) (by simpa using h)
   unfold cK at this ⊢
   simp only [List.zipWith_cons_cons,List.zip_cons_cons,List.map_cons] at this ⊢
   rw [this]
theorem rd_nil (x:Rd O M h k (.ref a) (.list [])):∃n,IsL h a #[] n:=by
 obtain⟨a',vs,m,e,h1,h2,h3,_⟩:=bC x
 cases e
 have:=h3.length
 rw [Array.length_toList] at this
 have:vs=#[]:=Array.eq_empty_of_size_eq_zero this
 exact⟨m,this ▸ h2⟩
theorem CycX.prot (X:CycX c T l σ){Z O0:Avoid}{t:Shared}:CycX (c.prot Z O0 t) T l σ:=⟨X.S,X.w0,X.off,X.suc,X.stop⟩
theorem uE {succ:Int->List Int}{x:Int}{ks seen:List Int}{res:Option (List Int)}(h:fM succ n (x::ks) seen=some res):(seen.contains x=true->fM succ n ks seen=some res)/\(seen.contains x=false->∃rs,fA succ n [] seen x=some rs/\(∀rr,rs=.inl rr->res=some rr)/\∀s',rs=.inr s'->fM succ n ks s'=some res):=by
 unfold fM at h
 refine⟨λe=>by rw [e,if_pos rfl] at h; exact h,λe=>?_⟩
 rw [e,if_neg (by decide)] at h
 cases hg:fA succ n [] seen x with
 | none=>rw [hg] at h; cases h
 | some rs =>
  rw [hg] at h
  exact⟨rs,rfl,λrr e=>(by subst e; exact(Option.some.inj h).symm),λs' e=>(by subst e; exact h)⟩
theorem cyc_body {W:Avoid}{res:Option (List Int)}{Q:Flow->Shared->Prop}(r:Run c O No W V s)(X:CycX c T l σ)(TK:TopoOk c.g.K T)(N:Names c.g)(hset:Callee c.g "set" (.type "set"))(hiter:Callee c.g "iter" (.builtin "iter"))
  (hsc:V.sc=cycN) (hself:V.is "self" (objD l.a)) (hres:σ.cyc=some res)
  (q1:∀v rr O' W' V' s',res=some rr->Run c O' No W' V' s'->Rd O' No s'.heap 0 v (.list (rr.map .int))->Q (.ret v) s')
  (q2:∀O' W' V' s',res=none->Run c O' No W' V' s'->Q (.ret .none) s') :
  wpAny c.g.M c.Ar (execs cycB c.env) Q E s:=by
 conv in cycB=>whnf
 have st0:∀x,stOk ⟨cycN,[]⟩ x=true->stOk V x=true:=λx=>kE hsc
 refine wpAny_execs_cons (r.assignS rfl (r.e0 (ev_n2i ((X.now r).now _) TK hself (by decide)) λv s_1 k1 rv r1=>r1.store (st0 _ rfl) rv λs2 c2 r2=>?_))
 have hn2i:=Rho.is_put (V:=V) (x:="n2i") (d:=objD l.m)
 have hsc2:(V.put "n2i" (objD l.m) 0).sc=cycN:=hsc
 generalize V.put "n2i" (objD l.m) 0=V2 at hn2i r2 hsc2
 revert hsc2
 revert r2
 revert hn2i
 revert V2
 refine id ?_
 intro V2 hn2i r2 hsc2
 refine wpAny_execs_cons (r2.assignS rfl (r2.newL (jB dX (by decide)) λa1 s3 k3 hn3 rl3 zw=>?_))
 ((show let Q0:=_; wpAny _ _ _ Q0 _ _); intro Q0)
 obtain⟨m1,hl1⟩:=rd_nil rl3
 have r3:=r2.grow k3 hn3 ⟨_,hl1⟩
 refine r3.store (d:=objD a1) (kE hsc2 rfl) .obj λs4 c4 r4=>?_
 ((show let Q0:=_; wpAny _ _ _ Q0 _ _); intro Q0)
 have hl14:IsL s4.heap a1 #[] m1:=r3.same c4 _ _ (.inr rfl) hl1
 have hn2i:=Rho.is_ne (x:="stack") (d':=objD a1) (k:=0) hn2i rfl
 have hst:=Rho.is_put (V:=V2) (x:="stack") (d:=objD a1)
 have hsc4:(V2.put "stack" (objD a1) 0).sc=cycN:=hsc2
 generalize V2.put "stack" (objD a1) 0=V4 at hn2i hst r4 hsc4
 revert hsc4
 revert r4
 revert hst
 revert hn2i
 revert V4
 refine id ?_
 intro V4 hn2i hst r4 hsc4
 refine wpAny_execs_cons (r4.assignS rfl (r4.newL (jB dX (by decide)) λa2 s5 k5 hn5 rl5 zw=>?_))
 ((show let Q0:=_; wpAny _ _ _ Q0 _ _); intro Q0)
 obtain⟨m2,hl2⟩:=rd_nil rl5
 have r5:=r4.grow k5 hn5 ⟨_,hl2⟩
 refine r5.store (d:=objD a2) (kE hsc4 rfl) .obj λs6 c6 r6=>?_
 have hl16:IsL s6.heap a1 #[] m1:=r5.same c6 _ _ (.inl (.inr rfl)) (aA k5 _ _ hl14)
 have hl26:IsL s6.heap a2 #[] m2:=r5.same c6 _ _ (.inr rfl) hl2
 have n12:a1≠a2:=λz=>by rw [<- z,hl14] at hn5; cases hn5
 have hn2i:=Rho.is_ne (x:="itstack") (d':=objD a2) (k:=0) hn2i rfl
 have hst:=Rho.is_ne (x:="itstack") (d':=objD a2) (k:=0) hst rfl
 have hits:=Rho.is_put (V:=V4) (x:="itstack") (d:=objD a2)
 have hsc6:(V4.put "itstack" (objD a2) 0).sc=cycN:=hsc4
 generalize V4.put "itstack" (objD a2) 0=V6 at hn2i hst hits r6 hsc6
 revert hsc6
 revert r6
 revert hits
 revert hst
 revert hn2i
 revert V6
 refine id ?_
 intro V6 hn2i hst hits r6 hsc6
 cases hset with
 | ty b1 b2 b3 =>
 refine wpAny_execs_cons (r6.assignS rfl (Call_ (aT r6.act.up r6.act.eo (by rw [hsc6]; rfl) b1 b2 b3 (by decide) (PySem.callWith_type (aL rfl) (aK rfl (wpAny_items_nil (call_set_0 λled=>?_)))))))
 ((show let Q0:=_; wpAny _ _ _ Q0 _ _); intro Q0)
 have hn7:s6.heap.get? s6.heap.objs.size=none:=bZ (aD s6)
 have k7:Keeps s6 { s6 with heap:=s6.heap.push { cls:=.type "set",dict:=none,data:=.set #[] 0 (.fresh 0 0 led) } }:=aI s6 _ _
 have hS7:({ s6 with heap:=s6.heap.push { cls:=.type "set",dict:=none,data:=.set #[] 0 (.fresh 0 0 led) } }:Shared).heap.SetOf (intKind c.g.prog c.g.w) s6.heap.objs.size (λzw=>false) 0 :=
  ⟨_,#[],0,.fresh 0 0 led,Heap.get?_push_size _ rfl,⟨rfl,rfl,rfl⟩,rfl,λzw h=>(by cases h),λk=>(by simp),(by decide),rfl,rfl⟩
 have ho7:∃o,({ s6 with heap:=s6.heap.push { cls:=.type "set",dict:=none,data:=.set #[] 0 (.fresh 0 0 led) } }:Shared).heap.get? s6.heap.objs.size=some o:=⟨_,Heap.get?_push_size _ rfl⟩
 generalize ({ s6 with heap:=s6.heap.push { cls:=.type "set",dict:=none,data:=.set #[] 0 (.fresh 0 0 led) } }:Shared)=s7 at k7 hS7 ho7 ⊢
 revert ho7
 revert hS7
 revert k7
 revert s7
 refine id ?_
 intro s7 k7 hS7 ho7
 generalize s6.heap.objs.size=a3 at hn7 hS7 ho7 ⊢
 revert ho7
 revert hS7
 revert hn7
 revert a3
 refine id ?_
 intro a3 hn7 hS7 ho7
 ((show let Q0:=_; wpAny _ _ _ Q0 _ _); intro Q0)
 have r7:=r6.grow k7 hn7 ho7
 refine r7.store (d:=objD a3) (kE hsc6 rfl) .obj λs8 c8 r8=>?_
 have hl18:IsL s8.heap a1 #[] m1:=r7.same c8 _ _ (.inl (.inl (.inr rfl))) (aA k7 _ _ hl16)
 have hl28:IsL s8.heap a2 #[] m2:=r7.same c8 _ _ (.inl (.inr rfl)) (aA k7 _ _ hl26)
 have hS8:s8.heap.SetOf (intKind c.g.prog c.g.w) a3 (λzw=>false) 0:=by
  obtain⟨o,es,ep,t,e,rr⟩:=hS7
  exact⟨o,es,ep,t,r7.same c8 _ _ (.inr rfl) e,rr⟩
 have n13:a1≠a3:=λz=>by rw [<- z,hl16] at hn7; cases hn7
 have n23:a2≠a3:=λz=>by rw [<- z,hl26] at hn7; cases hn7
 have hn2i:=Rho.is_ne (x:="seen") (d':=objD a3) (k:=0) hn2i rfl
 have hst:=Rho.is_ne (x:="seen") (d':=objD a3) (k:=0) hst rfl
 have hits:=Rho.is_ne (x:="seen") (d':=objD a3) (k:=0) hits rfl
 have hseen:=Rho.is_put (V:=V6) (x:="seen") (d:=objD a3)
 have hsc8:(V6.put "seen" (objD a3) 0).sc=cycN:=hsc6
 generalize V6.put "seen" (objD a3) 0=V8 at hn2i hst hits hseen r8 hsc8
 revert hsc8
 revert r8
 revert hseen
 revert hits
 revert hst
 revert hn2i
 revert V8
 refine id ?_
 intro V8 hn2i hst hits hseen r8 hsc8
 refine wpAny_execs_cons (r8.assignS rfl (wpAny_Dict_empty ?_))
 ((show let Q0:=_; wpAny _ _ _ Q0 _ _); intro Q0)
 have hn9:s8.heap.get? s8.heap.objs.size=none:=bZ (aD s8)
 have hsys:=sD r8.act.up
 have k9:Keeps s8 { s8 with heap:=s8.heap.push { cls:=.type "dict",data:=.dict #[] } }:=aI s8 _ _
 have hD9:({ s8 with heap:=s8.heap.push { cls:=.type "dict",data:=.dict #[] } }:Shared).heap.DictOf (intKind c.g.prog c.g.w) s8.heap.objs.size []:=Heap.DictOf.new _
 have ho9:∃o,({ s8 with heap:=s8.heap.push { cls:=.type "dict",data:=.dict #[] } }:Shared).heap.get? s8.heap.objs.size=some o:=⟨_,Heap.get?_push_size _ rfl⟩
 generalize ({ s8 with heap:=s8.heap.push { cls:=.type "dict",data:=.dict #[] } }:Shared)=s9 at k9 hD9 ho9 ⊢
 revert ho9
 revert hD9
 revert k9
 revert s9
 refine id ?_
 intro s9 k9 hD9 ho9
 generalize s8.heap.objs.size=a4 at hn9 hD9 ho9 hsys ⊢
 revert hsys
 revert ho9
 revert hD9
 revert hn9
 revert a4
 refine id ?_
 intro a4 hn9 hD9 ho9 hsys
 have r9:=r8.grow k9 hn9 ho9
 refine r9.store (d:=objD a4) (kE hsc8 rfl) .obj λs_0 c0 r0=>?_
 have hl10:IsL s_0.heap a1 #[] m1:=r9.same c0 _ _ (.inl (.inl (.inl (.inr rfl)))) (aA k9 _ _ hl18)
 have hl20:IsL s_0.heap a2 #[] m2:=r9.same c0 _ _ (.inl (.inl (.inr rfl))) (aA k9 _ _ hl28)
 have hS0:s_0.heap.SetOf (intKind c.g.prog c.g.w) a3 (λzw=>false) 0:=by
  obtain⟨o,es,ep,t,e,rr⟩:=hS8
  exact⟨o,es,ep,t,r9.same c0 _ _ (.inl (.inr rfl)) (aA k9 _ _ e),rr⟩
 have hD0:s_0.heap.DictOf (intKind c.g.prog c.g.w) a4 []:=by
  obtain⟨o,es,ep,e,rr⟩:=hD9
  exact⟨o,es,ep,r9.same c0 _ _ (.inr rfl) e,rr⟩
 have n14:a1≠a4:=λz=>by rw [<- z,hl18] at hn9; cases hn9
 have n24:a2≠a4:=λz=>by rw [<- z,hl28] at hn9; cases hn9
 have n34:a3≠a4:=λz=>by
  obtain⟨o,es,ep,t,e,rr⟩:=hS8
  rw [<- z,e] at hn9; cases hn9
 have nm:CycN ⟨a1,a2,a3,a4⟩ l (V8.put "node2stacki" (objD a4) 0):=⟨λx=>by show V8.sc.lookup x=_; rw [hsc8],Rho.is_ne hn2i rfl,Rho.is_ne hst rfl,Rho.is_ne hits rfl,Rho.is_ne hseen rfl,Rho.is_put⟩
 generalize V8.put "node2stacki" (objD a4) 0=V0 at nm r0
 revert r0
 revert nm
 revert V0
 refine id ?_
 intro V0 nm r0
 have w:CycW c.g l σ ⟨a1,a2,a3,a4⟩ [] [] (λb=>(((W b\/b=a1)\/b=a2)\/b=a3)\/b=a4) s_0.heap:=⟨⟨⟨#[],m1,hl10,Nat.zero_le _,.nil⟩,⟨m2,hl20⟩,⟨_,_,hS0,λzw=>rfl,Nat.le_refl _⟩,⟨[],rfl,hD0⟩,λv h=>(by cases h),hsys,λv h=>(by cases h),by
   simp [Four.all,n12,n13,n14,n23,n24,n34],Nat.zero_le _⟩,λb hb=>by
   simp only [Four.all,List.flatMap_nil,List.mem_cons,List.not_mem_nil,or_false] at hb
   rcases hb with rfl | rfl | rfl | rfl
   ·exact .inl (.inl (.inl (.inr rfl)))
   ·exact .inl (.inl (.inr rfl))
   ·exact .inl (.inr rfl)
   ·exact .inr rfl,λv h=>(by cases h),.nil⟩
 have S0:=X.now r0
 have hX:∀b,b=l.m->(∃o,s_0.heap.get? b=some o)/\¬c.P b/\¬No b/\¬(((( W b\/b=a1)\/b=a2)\/b=a3)\/b=a4)/\¬c.Fc b:=λb hb=>by
  subst hb
  have hm:l.W l.m:=by show l.m∈l.all; simp [LayS.all]
  obtain⟨o,eo⟩:=X.S.al _ hm
  refine⟨S0.al _ hm,λz=>(by rw [r0.np _ z] at eo; cases eo),id,λz=>?_,λz=>?_⟩
  ·rcases r0.ww _ z with z | z
   ·exact X.w0 _ z
   ·rw [z] at eo; cases eo
  ·rcases z with z | z
   ·exact X.off _ hm z
   ·have:=r0.nl
    rw [<- z,eo] at this; cases this
 refine wpAny_execs_cons (r0.forX (X:=λb=>b=l.m) (items:=(σ.nodes.map (·.id)).map .int) (xs:=["node"]) rfl rfl hX (by
   rw [<- uX S0.len]
   exact vB (X:=λb=>b=l.m) (g:=c.g.now s_0 r0.act.up) (n:=c.n) (V:=V0) (k:=0) (bE nm.n2i (by decide)) S0.sys S0.n2i rfl)
  (λi W V' s'=>∃seen,fM σ.succOf 200 ((σ.nodes.map (·.id)).drop i) seen=some res/\CycN ⟨a1,a2,a3,a4⟩ l V'/\CycW c.g l σ ⟨a1,a2,a3,a4⟩ [] seen W s'.heap/\SeenOk σ seen) (λzw zw zw=>False) (λv O' W' V' s'=>∃rr,res=some rr/\Rd O' No s'.heap 0 v (.list (rr.map .int)))
  ?_ ⟨[],hres,nm,w,⟨.nil,λzw h=>by cases h⟩⟩ ?_ ?_ ?_ (λzw zw zw zw zw zw h=>h.elim) ?_)
 ·intro i W V' s s' hJ k
  obtain⟨seen,h1,h2,h3,h4⟩:=hJ
  exact⟨seen,h1,h2,h3.keeps λb o hb=>k b o (.inl hb),h4⟩
 ·rintro i d W' V' s' hd ⟨seen,h1,h2,h3,h4⟩
  exact⟨by simpa using h2.st (x:="node") rfl,_,rfl⟩
 ·intro Z O0 t i d O' W' V' V1 s' E' hd hbd hJ r'
  ((show let Q0:=_; wpAny _ _ _ Q0 _ _); intro Q0)
  refine wp_q λQ' hQ=>?_
  obtain⟨seen,h1,h2,h3,h4⟩:=hJ
  obtain⟨x,hx,rfl⟩:∃x,(σ.nodes.map (·.id))[i]?=some x/\d=.int x:=by
   rw [List.getElem?_map,Option.map_eq_some_iff] at hd
   obtain⟨x,h,e⟩:=hd
   exact⟨x,h,e.symm⟩
  have hbd:V1=V'.put "node" (.int x) 0:=(Option.some.inj hbd).symm
  subst hbd
  have hhas:σ.has x=true:=by
   rw [List.getElem?_map,Option.map_eq_some_iff] at hx
   obtain⟨nd,h,e⟩:=hx
   exact has_iff.mpr ⟨i,nd,h,e⟩
  have hdrop:(σ.nodes.map (·.id)).drop i=x::(σ.nodes.map (·.id)).drop (i+1):=by
   obtain⟨hi,e⟩:=List.getElem?_eq_some_iff.mp hx
   rw [List.drop_eq_getElem_cons hi,e]
  obtain⟨hin,hgo⟩:=uE (hdrop ▸ h1)
  have nm':=h2.node (.int x)
  have hnode:(V'.put "node" (.int x) 0).is "node" (.int x):=Rho.is_put
  generalize V'.put "node" (.int x) 0=V1 at nm' hnode r'
  revert r'
  revert hnode
  revert nm'
  revert V1
  refine id ?_
  intro V1 nm' hnode r'
  obtain⟨SS0,n0,hS,hS1,hS2⟩:=h3.sch.set
  refine wpAny_execs_cons (wpAny_If (wpAny_isTrue_Compare1 (r'.name hnode (by decide) λv rv=>r'.nameA nm'.seen (by decide) ?_) rfl))
  obtain⟨t1,rfl⟩:=aH rv
  refine wpAny_inSet_of (intKind_is c.g.prog c.g.w x t1) rfl hS (wpAny_truthy_bool ?_)
  rw [hS1]
  have r2:=r'.toks (s'.toks+1)
  cases hsn:seen.contains x with
  | true =>
   refine(if_pos rfl).mpr ?_
   exact wpAny_execs_cons (wpAny_Continue (hQ _ _ ⟨_,_,_,r2,seen,hin hsn,nm',h3,h4⟩))
  | false =>
   refine(if_neg (by decide)).mpr ?_
   ((show let Q0:=_; wpAny _ _ _ Q0 _ _); intro Q0)
   obtain⟨rs,hgo,hno,hall⟩:=hgo hsn
   exact wpAny_execs_nil (wpAny_execs_cons (uN (c:=c.prot Z O0 t) (st:=[]) r2 X.prot TK N hiter nm' h3 h4 hnode hhas hgo (λv rr O'' W'' V'' s'' e r'' rv=>hQ (.ret v) _ ⟨_,_,_,r'',rr,hno _ e,rv⟩) λseen' O'' W'' V'' s'' e r'' nm'' w'' so''=>wpAny_execs_nil (hQ _ _ ⟨_,_,_,r'',seen',hall _ e,nm'',w'',so''⟩)))
 ·intro O' W' V' s' hO r' hJ
  ((show let Q0:=_; wpAny _ _ _ Q0 _ _); intro Q0)
  obtain⟨seen,h1,h2,h3,h4⟩:=hJ
  rw [List.length_map,List.drop_eq_nil_of_le (Nat.le_refl _)] at h1
  have hn:res=none:=(Option.some.inj h1).symm
  exact wpAny_execs_cons (wpAny_Return_some (r'.e0 fX λv s2 k2 rv r2=>by
   have:=kH rv; subst this
   exact q2 _ _ _ _ hn r2))
 ·rintro v O' W' V' s' hO r' ⟨rr,h1,h2⟩
  exact q1 _ _ _ _ _ _ h1 r' h2
noncomputable def CycRes (O M:Avoid) (h:Heap) (v:Value):Option (List Int)->Prop
 | none=>v=.none
 | some rr=>Rd O M h 0 v (.list (rr.map .int))
theorem tG {res:Option (List Int)}(at_:At g (n+2) A O M l.W F s)(TK:TopoOk g.K T)(TF:TopoFn g.K T)(N:Names g)
  (hset:Callee g "set" (.type "set")) (hiter:Callee g "iter" (.builtin "iter")) (hstop:nsIn g.K mainGlobals "StopIteration"=some none)
  (S:Srt g T s.heap l σ) (hsuc:∀nd∈σ.nodes,∀x∈nd.succ,σ.has x=true) (hres:σ.cyc=some res)
  (q:∀v (s':Shared),Cx No F s s'->Srt g T s'.heap l σ->CycRes O M s'.heap v res->R (.ok (.ret v)) s') :
  codeAny g.M A (.call (.ref T.cyc) ⟨[.ref l.a],[]⟩) R s:=by
 obtain⟨c,fk⟩:=TF.cyc
 refine eY (W:=No) (ds:=[objD l.a]) (at_.sub λzw h=>h.elim) fk (.cons .obj .nil) rfl rfl rfl λenv P O' s2 r hc hk=>?_
 have X:CycX ⟨g,n+1,A,env,P,O,M,No,F,s,No,O',s2⟩ T l σ:=⟨S,λzw h=>h,λb hb=>at_.wf b hb,hsuc,hstop⟩
 refine cyc_body r X TK N hset hiter rfl rfl hres (λv rr O'' W'' V' s' e r' rv=>?_) λO'' W'' V' s' e r'=>?_
 ·subst e
  exact q v s' r'.cx (X.now r') ((r'.rd_out rv).imp (λb zw h z=>h (Or.inl z)) (λb zw zw h z=>h z) (Nat.le_refl _))
 ·subst e
  exact q .none s' r'.cx (X.now r') rfl
theorem nR {p':Pos}{pl:Env->Sem Bool}{kvs:List (Int×Value)}{as:List Addr}(he:∀env,eval (.Call (.Attribute e "values" p) [] [] p') env=(do let ov <- eval e env; standAt p.atName; let (f,first) <- holding [ov] (getMethod ov "values" (pl env)); callWith p' f first (backTo p' (starEach [] env)) []))(ev:EvS g n V e (objD a) k)(hsys:(a==sysModules)=false)(I:g.h.DictOf (intKind g.prog g.w) a kvs)(hv:kvs.map (·.2)=as.map .ref)(hO:¬O a)(hM:¬M a) :
  AO g n O M V false (.Call (.Attribute e "values" p) [] [] p') (as.map objD):=by
 intro env A s E Q u rm aO aM eo q
 ((show let Q0:=_; wpAny _ _ _ Q0 _ _); intro Q0)
 refine MethodCall_ (ev.use u rm aO aM eo λv sa k1 r1 u1 o1 m1 e1=>?_) (he env)
 have:=aU r1; subst this
 obtain⟨ep,D0⟩:=I.dictAt
 have D1:=D0.keep (h':=sa.heap) λb o=>u1 b o
 refine getMethod_builtin D1.dictOf.typeIs PySem.F.plainAttrs_dict PySem.F.slot_dict_values PySem.F.type_dict_values D1.dictOf.mapOf.noDict (callWith_builtin (aL rfl) (aK rfl (wpAny_items_nil ?_)))
 refine call_meetsIn PySem.F.slot_dict_values D1.dictOf.typeIs PySem.F.entry_dict_values (PySem.F.args_dict_values_1 _) (meets_dict_values (intKind g.prog g.w) a hsys) ⟨⟨_,D1.dictOf⟩,?_⟩
 have k2:Keeps sa { sa with heap:=sa.heap.push { cls:=.type "dict_values",data:=.fields #[.ref a] } }:=aI sa _ _
 have hvw:({ sa with heap:=sa.heap.push { cls:=.type "dict_values",data:=.fields #[.ref a] } }:Shared).heap.IsValuesView sa.heap.objs.size a:=⟨_,Heap.get?_push_size _ rfl,rfl,rfl⟩
 generalize ({ sa with heap:=sa.heap.push { cls:=.type "dict_values",data:=.fields #[.ref a] } }:Shared)=sb at k2 hvw ⊢
 revert hvw
 revert k2
 revert sb
 refine id ?_
 intro sb k2 hvw
 generalize sa.heap.objs.size=vw at hvw ⊢
 have D2:=D1.keep (aA k2)
 have k3:Keeps sb { sb with heap:=sb.heap.push { cls:=.type "dict_valueiterator",data:=.fields #[.ref a,.int 0 0,.int kvs.length 0,.int ep 0] } }:=aI sb _ _
 have hne:a≠sb.heap.objs.size:=λz=>by
  have:=D2.lt_size
  rw [<- z] at this
  exact absurd this (Nat.lt_irrefl _)
 have klen:as.length=kvs.length:=by
  have:=congrArg List.length hv
  simpa using this.symm
 refine wpAny_pyIter_values hvw D2 (q _ _ (λb=>b=sb.heap.objs.size) (λi h=>h.IsValIter sb.heap.objs.size a i kvs.length ep/\h.DictAt (intKind g.prog g.w) a kvs ep) (aB k1 (aB k2 k3)) ⟨⟨⟨_,Heap.get?_push_size _ rfl,rfl,rfl⟩,D2.keep (aA k3)⟩,λb hb=>by subst hb; exact⟨bZ (aB k1 k2),_,Heap.get?_push_size _ rfl⟩,λi h st b hb=>by
   subst hb
   obtain⟨o,ho,hc,hd⟩:=st.1
   exact⟨o,ho,by unfold isFS; rw [hd]⟩,λi h h' st hk=>?_,?_,?_,?_⟩)
 ·obtain⟨⟨o,ho,hr⟩,⟨od,es,hod,rr⟩⟩:=st
  have ha:∃o',(sb.heap.push { cls:=.type "dict_valueiterator",data:=.fields #[.ref a,.int 0 0,.int kvs.length 0,.int ep 0] }).get? a=some o':=by
   obtain⟨o',_,h',_⟩:=D2.keep (aA k3)
   exact⟨o',h'⟩
  exact⟨⟨o,hk _ _ (o1.keeps k2).new (m1.keeps k2).new ⟨_,Heap.get?_push_size _ rfl⟩ ho,hr⟩,⟨od,es,hk _ _ hO hM ha hod,rr⟩⟩
 ·intro O' M' i d t target E' Q' wd' wd htg hd st aO' aM' q'
  ((show let Q0:=_; wpAny _ _ _ Q0 _ _); intro Q0)
  rw [List.getElem?_map,Option.map_eq_some_iff] at hd
  obtain⟨x,hx,rfl⟩:=hd
  obtain⟨⟨k',v⟩,hkv⟩:∃p,kvs[i]?=some p:=by
   have:=(List.getElem?_eq_some_iff.mp hx).1
   exact⟨_,List.getElem?_eq_getElem (by grind)⟩
  have hvx:v=.ref x:=by
   have:=congrArg (·[i]?) hv
   simp only [List.getElem?_map,hx,hkv,Option.map_some,Option.some.injEq] at this
   exact this
  subst hvx
  refine wpAny_pyNext_values_item st.1 st.2 hkv λh' hit' hs'=>⟨_,rfl,?_⟩
  exact cC htg (q' _ { t with heap:=h' } ⟨⟨h',t.toks,rfl⟩,λb o hb e=>hs'.extBut b o hb e⟩ .obj ⟨hit',st.2.extBut hs'.extBut hne⟩)
 ·intro t E' Q' st q'
  exact wpAny_pyNext_values_end rm.handled st.1 st.2 (by simp [klen]) λh' he'=>q' _ ⟨⟨h',t.toks,rfl⟩,λb o hb e=>he' b o hb e⟩
 ·intro t E' Q' st q'
  exact wpAny_pyIter_valiter st.1 q'
structure Flown (cls:Value) (e T:Addr) (h:Heap):Prop where
 ne:T≠e
 at_:∃oe vs oT ts,h.get? e=some oe/\oe.cls=cls/\oe.data=.fields vs/\vs[1]?=some (.ref T)/\h.get? T=some oT/\oT.data=.fields ts/\ts[3]?=some .none/\vs[2]?=some .none
theorem Run.leaves {W:Avoid}{e:Addr}{ob:Obj}{vs:Array Value}{Q:Unit->Shared->Prop}(r:Run c O M W V s)(he:s.heap.get? e=some ob)(hd:ob.data=.fields vs)(h1:vs[1]?=some .none)(hctx:vs[2]?=some .none)
  (q:∀s' T,Cx (λb=>b=e) c.Fc s s'->s.heap.get? T=none->Flown ob.cls e T s'.heap->Q () s'):wpAny c.g.M c.Ar (leaving c.env (.ref e)) Q E s:=by
 have fi:=r.frmIn
 obtain⟨⟨fs,hfs,_⟩,_⟩:=r.frm
 have hfr:c.Ar.frames=some (c.env::fs):=by show c.A.frames.map _=_; rw [hfs]; rfl
 unfold leaving
 refine wpAny_bind (noted fi hfr r.fr he hd h1 λs3 cx3 hnn=>?_)
 obtain⟨T',oe,vs',oT,ts,t1,t2,t3,t4,t5,t6,t7,t8,t9,t0⟩:=hnn
 exact q _ T' cx3 t5 ⟨t6,oe,vs',oT,ts,t1,t2,t3,t4,t7,t8,t9,t0.trans hctx⟩
theorem noted2 {outer:List Env}{L e T:Addr}{cls:Value}{Q:Unit->Shared->Prop}(f:Frm g A F s.heap)(hfr:A.frames=some (env::outer))(hf:env.frame=some L)(hTF:¬F T)
  (fl:Flown cls e T s.heap) (q:∀s' T',Cx (λb=>b=e\/b=T) F s s'->(∃o,s'.heap.get? T=some o)->s.heap.get? T'=none->Flown cls e T' s'.heap->Q () s') :
  wpAny g.M A (noteFrame (.ref e) env) (λzw s2=>wpAny g.M A (setFlight (.ref e) none) Q E s2) E s:=by
 obtain⟨hTe,oe,vs,oT,ts,he,hcls,hd,h1,hT,hdT,h3,hctx⟩:=fl
 have other:∀b,b≠T->(s.heap.update T (Obj.mapFields (·.setIfInBounds 3 Value.none))).get? b=s.heap.get? b:=λb hb=>Heap.get?_update_other _ _ (Ne.symm hb)
 have atT:(s.heap.update T (Obj.mapFields (·.setIfInBounds 3 Value.none))).get? T=some (Obj.mapFields (·.setIfInBounds 3 Value.none) oT):=Heap.get?_update_self _ hT (by cases oT; cases hdT; rfl)
 have f1:Frm g A F (s.heap.update T (Obj.mapFields (·.setIfInBounds 3 Value.none))):=f.cx (s:=s) (s':={ s with heap:=s.heap.update T (Obj.mapFields (·.setIfInBounds 3 Value.none)) }) (W:=λb=>b=T) (F':=No) (.of_chg ⟨⟨_,s.toks,rfl⟩,λb o hb eb=>(other b hb).trans eb⟩) λb hb hF=>hTF (hb ▸ hF)
 generalize hs1:s.heap.update T (Obj.mapFields (·.setIfInBounds 3 Value.none))=h1' at other atT f1
 subst hcls
 unfold noteFrame
 simp only [hf]
 have hsz:=(Array.getElem?_eq_some_iff.mp h1).1
 refine wpAny_bind (wpAny_field he hd h1 ?_)
 rw [if_pos (show(Value.ref T != Value.none)=true from by simp)]
 refine wpAny_bind (wpAny_field hT hdT h3 ?_)
 rw [if_neg (show ¬((Value.none==rawInt L)=true) from by simp [rawInt])]
 refine wpAny_bind (wpAny_setField hT hdT (Array.getElem?_eq_some_iff.mp h3).1 ?_)
 rw [hs1]
 refine pL (s:={ s with heap:=h1' }) f1 hfr hf ((other e (Ne.symm hTe)).trans he) hd hsz λs' T' cx hT' hTe' he' hoT=>?_
 obtain⟨oT',ts',t7,t8,t9⟩:=hoT
 have c1:Cx (λb=>b=e\/b=T) F s { s with heap:=h1' }:=.of_chg ⟨⟨_,s.toks,rfl⟩,λb o hb eb=>(other b λz=>hb (.inr z)).trans eb⟩
 have hsT:s.heap.get? T'=none:=by
  have hT':h1'.get? T'=none:=hT'
  by_cases z:T'=T
  ·rw [z,atT] at hT'; cases hT'
  ·rw [<- other T' z]; exact hT'
 refine q s' T' (c1.step cx (λb hb=>.inl (.inl hb)) λb hb=>.inl hb) ?_ hsT ⟨hTe',_,_,oT',ts',he',Obj.cls_mapFields _ _,Obj.data_mapFields hd _,by simp [hsz],t7,t8,t9,(Array.getElem?_setIfInBounds_ne (by decide)).trans hctx⟩
 obtain⟨⟨sl,e1⟩,_⟩:=cx.2 T _ hTe atT
 exact⟨_,e1⟩
structure ExcK (K:Frag) (C:Addr):Prop where
 obj:∃nm q N bs sub k0 k1 k2 k3 k5,K.lookup C=some (excClassObj nm q C N bs [.type "ValueError",.type "Exception",.type "BaseException",.type "object"] true [] sub false none none k0 k1 k2 k3 k5 "ValueError.__new__")/\nsOkIn K N=true/\nsIn K N "__init__"=some none
theorem zH {M:Model}{nm q:Str}{C N e:Addr}{bs:List Value}{hdct:Bool}{sn:List Str}{sub:List Value}{ab:Bool}{col:Option Bool}{dd:Option Addr}{k0 k1 k2 k3 k5:Option Value}{newId:String}{oe:Obj}{Q:Bool->Shared->Prop}
  (hC:s.heap.get? C=some (excClassObj nm q C N bs [.type "ValueError",.type "Exception",.type "BaseException",.type "object"] hdct sn sub ab col dd k0 k1 k2 k3 k5 newId)) (he:s.heap.get? e=some oe) (hcls:oe.cls=.ref C) (hq:Q true s):wpAny M A (excMatches (.ref e) (.ref C)) Q E s:=by
 obtain⟨h,g,d,t,os⟩:=s
 exact wpAny_excMatches_sub_self hC he hcls (by decide) hq
theorem Run.caughtC {W:Avoid}{Q:Flow->Shared->Prop}{e T C:Addr}{hp:Pos}{b0:Stmt}{suite:List Stmt}{rest:List ExceptHandler}(r:Run c O M W V s)
  (hW:W e) (hT:W T) (fl:Flown (.ref C) e T s.heap) (X:ExcK c.g.K C)
  (hs:V.sc.lookup x=some .globalImplicit) (hv:nsIn c.g.K mainGlobals x=some (some (.ref C))) (hdb:(x==("__debug__":Str))=false)
  (k:∀s5 E',Cx (λb=>b=e\/b=T) c.Fc s s5->Run c O M W V s5->(∃oe vs,s5.heap.get? e=some oe/\oe.data=.fields vs/\vs[2]?=some .none)->wpAny c.g.M (c.Ar.mark (some (.ref e))) (execs (b0::suite) c.env) Q E' s5) :
  wpAny c.g.M c.Ar (noteFrame (.ref e) c.env) (λzw s2=>wpAny c.g.M c.Ar (setFlight (.ref e) none) (λzw s3=>wpAny c.g.M c.Ar (handleBy (.ref e) c.env (.ExceptHandler (some (.Name x np)) none (b0::suite) hp::rest)) Q E s3) E s2) E s:=by
 have fi:=r.frmIn
 obtain⟨⟨fs,hfs,_⟩,_⟩:=r.frm
 have hfr:c.Ar.frames=some (c.env::fs):=by show c.A.frames.map _=_; rw [hfs]; rfl
 have run:∀s',Cx (λb=>b=e\/b=T) c.Fc s s'->(∃o,s'.heap.get? e=some o)->(∃o,s'.heap.get? T=some o)->Run c O M W V s':=λs' cx he' hT'=>by
  have z:=r.eff (W':=W) (cx.mono (λb hb=>by rcases hb with hb | hb <;> rw [hb] <;> assumption) λzw h=>h) (λzw h=>h) (λzw h=>.inl h) λb hb=>by
   by_cases h1:b=e
   ·rw [h1]; exact he'
   ·by_cases h2:b=T
    ·rw [h2]; exact hT'
    ·obtain⟨o,eo⟩:=r.act.aO b (r.wo b hb)
     obtain⟨⟨sl,e'⟩,_⟩:=cx.2 b o (λh=>h.elim h1 h2) eo
     exact⟨_,e'⟩
  exact { z with act:=z.act.impO λb h=>.inl h,pl:=r.pl,oo:=r.oo,on:=r.on,lo:=r.lo,nf:=r.nf,wo:=r.wo,oz:=r.oz,ou:=r.ou }
 refine noted2 fi hfr r.fr (r.at.wf T hT) fl λs3 T' cx3 hT3 hn3 fl3=>?_
 ((show let Q0:=_; wpAny _ _ _ Q0 _ _); intro Q0)
 obtain⟨hTe,oe,vs',oT,ts,t1,t2,t3,t4,t7,t8,t9,t0⟩:=fl3
 have r3:=run s3 cx3 ⟨_,t1⟩ hT3
 obtain⟨nm,q,N,bs,sub,k0,k1,k2,k3,k5,hC,hN⟩:=X.obj
 have hC3:=r3.act.up _ _ (c.g.X _ _ hC)
 refine wpAny_handleBy_cons (codeAny_handlers_test (bG r3.act.up r3.act.eo hs hv hdb (zH hC3 t1 t2 ?_))) (by intro q; cases q)
 refine codeAny_handlers_suite (wpAny_setFlight_none t1 t3 t4 t7 t8 (Array.getElem?_eq_some_iff.mp t9).1 ?_)
 have cx4:Cx (λb=>b=e\/b=T) c.Fc s { s3 with heap:=s3.heap.update T' (Obj.mapFields (·.setIfInBounds 3 .none)) }:=cx3.step (W:=λb=>b=T') (F:=No) (.of_chg ⟨⟨_,s3.toks,rfl⟩,λb o hb eb=>(Heap.get?_update_ne _ _ _ _ hb).trans eb⟩) (λb hb=>.inr (by rw [hb]; exact hn3)) λzw h=>h.elim
 have hTT:T≠T':=λz=>by
  obtain⟨o,eo⟩:=r.act.aO T (r.wo T hT)
  rw [z,hn3] at eo; cases eo
 obtain⟨oT3,eT3⟩:=hT3
 exact k _ _ cx4 (run _ cx4 ⟨_,(Heap.get?_update_ne _ _ _ _ hTe.symm).trans t1⟩ ⟨_,(Heap.get?_update_ne _ _ _ _ hTT).trans eT3⟩) ⟨oe,vs',(Heap.get?_update_ne _ _ _ _ hTe.symm).trans t1,t3,t0⟩
theorem Run.raiseC {W:Avoid}{Q:Flow->Shared->Prop}{C:Addr}{y msg:Str}{kk:Nat}{cpos jp p1 p2:Pos}(r:Run c O M W V s)(X:ExcK c.g.K C)
  (hs:V.sc.lookup x=some .globalImplicit) (hv:nsIn c.g.K mainGlobals x=some (some (.ref C))) (hdb:(x==("__debug__":Str))=false) (hy:V.is y d) (hyd:(y==("__debug__":Str))=false)
  (q:∀s' e ob vs,Keeps s s'->s.heap.get? e=none->s'.heap.get? e=some ob->ob.cls=.ref C->ob.data=.fields vs->vs[1]?=some .none->vs[2]?=some .none->E (.ref e) s') :
  wpAny c.g.M c.Ar (exec (.Raise (some (.Call (.Name x np) [.JoinedStr [.Constant (.str msg) kk p1] jp,.Name y p2] [] cpos)) none pos) c.env) Q E s:=by
 obtain⟨nm,qn,N,bs,sub,k0,k1,k2,k3,k5,hC,hN,hI⟩:=X.obj
 refine wpAny_Raise_call_sub (C:=C) (nm:=nm) (q:=qn) (N:=N) (bs:=bs) (hdct:=true) (sn:=[]) (sub:=sub) (ab:=false) (col:=none) (dd:=none) (k0:=k0) (k1:=k1) (k2:=k2) (k3:=k3) (k5:=k5) PySem.F.excBase_ValueError (mN:=c.g.h.nsMap N) r.rm.handled rfl (nsMap_none_of_in c.g.X hN hI)
  (bG r.act.up r.act.eo hs hv hdb ⟨rfl,?_⟩)
 refine Calls.evalArgs_plain (Calls.spliced_cons (wpAny_JoinedStr_one (pos:=jp) (r.e0 ev_str λv s_1 k_1 rv r1=>Calls.spliced_cons (r1.name hy hyd λv2 rv2=>Calls.spliced_nil ?_))))
 refine⟨rfl,by show 2<=sizeLine; decide,r1.act.up _ _ (c.g.X _ _ hC),(Heap.Ns.of_isNs (isNs_of_in c.g.X hN)).keeps r1.act.up,λh' e hm=>?_⟩
 obtain⟨t,ht,_,_⟩:=hm.there
 refine q _ e _ _ (aB k_1 ⟨h',_,rfl,hm.keeps⟩) ?_ ht rfl rfl rfl rfl
 cases he:s.heap.get? e with
 | none=>rfl
 | some o=>have:=aA k_1 _ _ he; rw [hm.new] at this; cases this
theorem ev_nid {a:NdA}{nd:Nd}{p':Pos}(N:NodeAt T g.h a nd)(TK:TopoOk g.K T)(hv:V.is x (objD a.info))(hd:(x==("__debug__":Str))=false):EvS g n V (.Attribute (.Name x p) "node" p') (.int nd.id) k:=λO M env A s E u rm aO aM eo =>
 Attribute_Name_ ((bE hv hd).use u rm aO aM eo λv s_1 k1 r1 u1 o1 m1 e1=>by
  have:=aU r1; subst this
  exact get_node (N.keeps λb o zw=>u1 b o) (g.X.keeps u1) TK λt=>⟨aB k1 (aG _ _),.int⟩)
theorem uW:∀{ns:List NdA} {nodes:List Nd},ns.length=nodes.length->(cK ns nodes).map (·.2)=(ns.map (·.info)).map .ref:=by
 intro ns
 induction ns with
 | nil=>intro nodes h; cases nodes with
  | nil=>rfl
  | cons _ _=>simp at h
 | cons a ns ih=>intro nodes h; cases nodes with
  | nil=>simp at h
  | cons nd nodes =>
   have:=ih (nodes:=nodes) (by simpa using h)
   unfold cK at this ⊢
   simp only [List.zipWith_cons_cons,List.map_cons] at this ⊢
   rw [this]
noncomputable def iL (σ:SS):List (List D):=σ.nodes.map λnd=>if nd.np==0 then [.int nd.id] else []
theorem iK (σ:SS):(iL σ).flatten=σ.roots.map .int:=by
 unfold iL SS.roots
 induction σ.nodes with
 | nil=>rfl
 | cons nd ns ih =>
  simp only [List.map_cons,List.flatten_cons,List.filter_cons,ih]
  split <;> simp
theorem xB (σ:SS):σ.roots.length<=σ.nodes.length:=by
 unfold SS.roots
 rw [List.length_map]
 exact List.length_filter_le _ _
theorem rd_intsL {xs:List Int}(x:Rd O M h k v (.list (xs.map .int))):∃a,v=.ref a/\Ints h a xs/\¬O a:=by
 obtain⟨a,vs,m,rfl,h1,h2,h3,h4,h5⟩:=bC x
 obtain⟨ys,e1,e2⟩:=cG h3
 exact⟨a,rfl,⟨vs,m,h2,h1,by rw [e1,<- e2]; exact bH ys⟩,h4⟩
theorem Run.roots {W:Avoid}{scope:Scope}{p1 p2 p3 p4 p5 p6 p7 p8 p9 p10 p11:Pos}{pl:Env->Sem Bool}(r:Run c O M W V s)(S:Srt c.g T s.heap l σ)(TK:TopoOk c.g.K T)(hself:V.is "self" (objD l.a))
  (he:∀env,eval (.Call (.Attribute (.Attribute (.Name "self" p1) "_node2info" p2) "values" p3) [] [] p4) env=(do let ov <- eval (.Attribute (.Name "self" p1) "_node2info" p2) env; standAt p3.atName; let (f,first) <- holding [ov] (getMethod ov "values" (pl env)); callWith p4 f first (backTo p4 (starEach [] env)) []))
  (hk:scope.kind=.function) (hn:scope.names.all (λp=>p.2 != .free && scope.names.lookup p.1==some p.2)=true) (hi:bR scope.names ["i"]=true)
  (q:∀z s',Keeps s s'->s.heap.get? z=none->Ints s'.heap z σ.roots->Run c O M W V s'->Q (.ref z) s') :
  wpAny c.g.M c.Ar (eval (.ListComp (.Attribute (.Name "i" p5) "node" p6) [⟨.Name "i" p7,.Call (.Attribute (.Attribute (.Name "self" p1) "_node2info" p2) "values" p3) [] [] p4,[.Compare (.Attribute (.Name "i" p8) "npredecessors" p9) [.Eq] [.Constant (.int 0) 0 p10] p11],0⟩] scope cp) c.env) Q E s:=by
 rw [eval_ListComp]
 let g':=c.g.now s r.act.up
 let O1:Avoid:=λb=>(∃o,s.heap.get? b=some o)/\b≠l.m
 let V1:Rho:=⟨V.sc,[("self",objD l.a,0)]⟩
 have eo1:EnvOk O1 No V1 c.env s.heap:=by
  refine⟨r.act.eo.kind,r.act.eo.gl,r.act.eo.bl,r.act.eo.sc,r.act.eo.apart,λx d k hx=>?_⟩
  by_cases e:x="self"
  ·subst e
   have:(d,k)=(objD l.a,0):=(Option.some.inj hx).symm
   cases this
   obtain⟨v,h1,h2,h3⟩:=r.act.eo.vars "self" _ _ hself
   have:=aU h2; subst this
   exact⟨_,h1,.obj,λz=>absurd rfl z⟩
  ·have:V1.vars.lookup x=none:=by
    show([("self",objD l.a,0)]:List (Str×D×Nat)).lookup x=none
    have:(x==("self":Str))=false:=by simpa using e
    simp [List.lookup,this]
   rw [this] at hx; cases hx
 have S':Srt g' T s.heap l σ:=S.now _
 have ok:bW V1 scope.names=true:=by
  unfold bW
  rw [List.all_eq_true] at hn ⊢
  intro p hp
  have:=hn p hp
  rw [Bool.and_eq_true] at this ⊢
  exact⟨this.2,by rw [this.1]; rfl⟩
 have nofree:∀x,(V1.inner scope.names).vars.lookup x=none:=λx=>by
  show(V1.vars.filter λp=>scope.names.lookup p.1==some .free).lookup x=none
  rw [cN (λy=>scope.names.lookup y==some .free)]
  have:¬(scope.names.lookup x=some .free):=λh=>by
   rw [List.all_eq_true] at hn
   have hm:∃y,(y,NameKind.free)∈scope.names:=by
    clear hn hi ok he
    generalize scope.names=ns at h
    induction ns with
    | nil=>cases h
    | cons p ns ih =>
     obtain⟨y,kd⟩:=p
     rw [List.lookup_cons] at h
     split at h
     ·cases h; exact⟨y,by simp⟩
     ·obtain⟨y',h'⟩:=ih h
      exact⟨y',by simp [h']⟩
   obtain⟨y,hm⟩:=hm
   have:=hn _ hm
   simp at this
  have h2:(scope.names.lookup x==some NameKind.free)=false:=by simpa using this
  rw [h2]; rfl
 refine eL (g:=g') (n:=c.n) (use:=none) (V:=V1) (O:=O1) (M:=No) (tt:=false) (items:=(l.ns.map (·.info)).map objD) (outs:=iL σ) (xs:=["i"]) r.rm (λit Z env'=>jV ..) (bU rfl c.env) hk ok
  (nR (k:=0) (pl:=pl) he (ev_n2i S' TK rfl (by decide)) S'.sys S'.n2i (uW S'.len) (λz=>z.2 rfl) id) ⟨_,_,rfl⟩ rfl hi (by simp [iL,S'.len]) (λO' P env' Z pl i d out h1 h2=>?_) (by
   rw [iK,List.length_map]
   have:=xB σ
   have:=S.big
   have:cap=100000:=rfl
   grind) (Glob.now_up _) (λb h=>h.1) (λzw h=>h.elim) eo1 λZ C t' m k hm hC rd=>?_
 ·refine LastS.item ?_ r.rm pl
  rw [List.map_map,List.getElem?_map,Option.map_eq_some_iff] at h1
  obtain⟨a,ha,rfl⟩:=h1
  unfold iL at h2
  rw [List.getElem?_map,Option.map_eq_some_iff] at h2
  obtain⟨nd,hnd,rfl⟩:=h2
  have N:=S'.nds i a nd ha hnd
  have hv:((V1.inner scope.names).set "i" (objD a.info) 0).is "i" (objD a.info):=by
   show List.lookup _ _=_
   simp [Rho.set]
  refine⟨_,(nd.np==0),rfl,y5 (rX (ka:=0) (kb:=0) (ev_np N TK hv (by decide)) eK mS rfl),?_⟩
  cases hb:(nd.np==0) with
  | true=>exact .inl ⟨rfl,_,by simp,ev_nid N TK hv (by decide)⟩
  | false=>exact .inr ⟨rfl,by simp⟩
 ·rw [iK] at rd
  refine⟨m,hm,λh' hs'=>?_⟩
  have rd':=rd.seqs λb c vs q e=>hs'.extBut b _ (dT hm e) e
  obtain⟨z,hz,hI,hO⟩:=rd_intsL rd'
  have hz:Z=z:=by cases hz; rfl
  subst hz
  have kk:=gE k hC hs'
  refine q Z _ kk ?_ hI (r.keeps kk)
  cases hz:s.heap.get? Z with
  | none=>rfl
  | some o =>
   have hzm:Z=l.m:=Classical.byContradiction λe=>hO ⟨⟨o,hz⟩,e⟩
   obtain⟨o',es,ep,h1,h2,h3,_⟩:=S.n2i
   obtain⟨vs,n',i1,_⟩:=hI
   have:=aA kk _ _ h1
   rw [<- hzm,i1] at this
   cases this
   cases h3
theorem xL {res:Option (List Int)}(at_:At g (n+4) A O M l.W F s)(TK:TopoOk g.K T)(TF:TopoFn g.K T)(N:Names g)
  (hset:Callee g "set" (.type "set")) (hiter:Callee g "iter" (.builtin "iter")) (hstop:nsIn g.K mainGlobals "StopIteration"=some none)
  (S:Srt g T s.heap l σ) (hr:l.rd=[]) (hsuc:∀nd∈σ.nodes,∀x∈nd.succ,σ.has x=true) (hres:σ.cyc=some res) (hne:∀rr,res=some rr->rr≠[]) {C:Addr} (XK:ExcK g.K C) (hC:nsIn g.K mainGlobals "CycleError"=some (some (.ref C)))
  (q:∀(s':Shared) r,res=none->Eff l.W F s ({ l with rd:=[r] }:LayS).W s'->Srt g T s'.heap { l with rd:=[r] } { σ with ready:=some σ.roots }->R (.ok (.ret .none)) s')
  (qr:∀(s':Shared) r e Te,res.isSome=true->Eff l.W F s (λb=>({ l with rd:=[r] }:LayS).W b\/b=e\/b=Te) s'->Srt g T s'.heap { l with rd:=[r] } { σ with ready:=some σ.roots }->Flown (.ref C) e Te s'.heap->¬({ l with rd:=[r] }:LayS).W e->¬({ l with rd:=[r] }:LayS).W Te->s.heap.get? e=none->s.heap.get? Te=none->R (.error (.ref e)) s') :
  codeAny g.M A (.call (.ref T.prep) ⟨[.ref l.a],[]⟩) R s:=by
 obtain⟨c,fk⟩:=TF.prep
 refine eY (ds:=[objD l.a]) at_ fk (.cons .obj .nil) rfl rfl rfl λenv P O' s2 r hc hk=>?_
 revert r
 (show let c:Fx:=_; Run c _ _ _ _ _->_)
 intro c r
 ((show let Q0:=_; wpAny _ _ _ Q0 _ _); intro Q0)
 conv in (mOf _ _).1=>whnf
 have S2:Srt g T s2.heap l σ:=S.keeps λb o zw=>hk b o
 refine wpAny_execs_cons (wpAny_If (wpAny_isTrue_Compare1 (Attribute_Name_ (r.name (d:=objD l.a) (k:=0) rfl (by decide) λv rv=>?_)) rfl))
 have:=aU rv; subst this
 refine kW S2 r.now TK ?_
 rw [hr]
 have r:=r.toks (s2.toks+1)
 refine r.e0 fX λv' s3 k3 rv' r=>dC (g:=g) (n:=n) O' No _ s3 _ _ _ _ (r.rm.le (by show n<=n+3; (exact Nat.le_add_right _ _))) (Rd.none (k:=0)) rv' (wpAny_truthy_bool ?_)
 refine wpAny_execs_nil ?_
 ((show let Q0:=_; let E0:=_; wpAny _ _ _ Q0 E0 _); intro Q0 E0)
 have S3:Srt g T s3.heap l σ:=S2.keeps λb o zw=>aA k3 b o
 refine wpAny_execs_cons (plainObj_wpAny_Assign_Attribute (r.roots (T:=T) (l:=l) (σ:=σ) (pl:=λenv=>_) S3 TK rfl (λzw=>rfl) rfl (by decide) (by decide) λz s4 k4 hz hI r4=>r4.name (d:=objD l.a) (k:=0) rfl (by decide) λv rv=>?_) rfl)
 ((show let Q0:=_; wpAny _ _ _ Q0 _ _); intro Q0)
 have:=aU rv; subst this
 have S4:Srt g T s4.heap l σ:=S3.keeps λb o zw=>aA k4 b o
 have hzl:z∉l.all:=λh=>by
  obtain⟨o,e⟩:=S3.al z h
  rw [hz] at e; cases e
 refine set_rdy S4 r4.now TK hr hI hzl λs5 cx5 S5=>?_
 have hW:∀b,l.W b->({ l with rd:=[z] }:LayS).W b:=λb hb=>by
  show b∈({ l with rd:=[z] }:LayS).all
  have hb:b∈l.all:=hb
  unfold LayS.all at hb ⊢
  rw [hr] at hb
  simp only [List.nil_append,List.mem_cons,List.mem_append,List.not_mem_nil,or_false] at hb ⊢
  rcases hb with hb | hb | hb | hb
  ·exact .inl hb
  ·exact .inr (.inl hb)
  ·exact .inr (.inr (.inl hb))
  ·exact .inr (.inr (.inr (.inr hb)))
 have hW':∀b,({ l with rd:=[z] }:LayS).W b->l.W b\/b=z:=λb hb=>by
  have hb:b∈({ l with rd:=[z] }:LayS).all:=hb
  show b∈l.all\/b=z
  unfold LayS.all at hb ⊢
  rw [hr]
  simp only [List.nil_append,List.mem_cons,List.mem_append,List.not_mem_nil,or_false] at hb ⊢
  rcases hb with hb | hb | hb | hb | hb
  ·exact .inl (.inl hb)
  ·exact .inl (.inr (.inl hb))
  ·exact .inl (.inr (.inr (.inl hb)))
  ·exact .inr hb
  ·exact .inl (.inr (.inr (.inr hb)))
 have cx45:Cx l.W No s3 s5:=Cx.step (W:=l.W) (F:=No) (.of_keeps k4) cx5 (λzw h=>.inl h) (λzw h=>.inl h)
 have r5:=r.eff (W':=({ l with rd:=[z] }:LayS).W) (cx45.mono (λzw h=>h) No.le) hW (λb hb=>by
  rcases hW' b hb with h | h
  ·exact .inl h
  ·subst h; exact .inr hz) S5.al
 generalize hl':({ l with rd:=[z] }:LayS)=l' at S5 r5 hW
 revert hW
 revert r5
 revert S5
 revert hl'
 revert l'
 refine id ?_
 intro l' hl' S5 r5 hW
 ((show let Q0:=_; let E0:=_; wpAny _ _ _ Q0 E0 _); intro Q0 E0)
 have ela:l.a=l'.a:=by rw [<- hl']
 refine wpAny_execs_cons (r5.assignS rfl (MethodCall_ (r5.name (d:=objD l.a) (k:=0) rfl (by decide) λv rv=>?_)))
 ((show let Q0:=_; wpAny _ _ _ Q0 _ _); intro Q0)
 have:=aU rv; subst this
 rw [ela]
 refine gU S5 r5.now TK TK.mcyc (by decide) (callWith_K0 r5.now TK.mcyc.keep ?_)
 ((show let Q0:=_; wpAny _ _ _ Q0 _ _); intro Q0)
 refine wpAny_call (tG (n:=n) (σ:={ σ with ready:=some σ.roots }) (r5.at.le (by show n+2<=n+3; (simp +arith))) TK TF N hset hiter hstop S5 hsuc hres λv6 s6 cx6 S6 cr=>?_)
 have r6:=r5.eff (W':=l'.W) (cx6.mono (λzw h=>h.elim) (λzw h=>h)) (λzw h=>h) (λzw h=>.inl h) S6.al
 cases res with
 | none =>
  have:v6=.none:=cr
  subst this
  refine r6.store (d:=.none) rfl .none λs7 c7 r7=>?_
  ((show let Q0:=_; wpAny _ _ _ Q0 _ _); intro Q0)
  have S7:Srt g T s7.heap l' { σ with ready:=some σ.roots }:=S6.keeps (r6.same c7)
  refine wpAny_execs_cons (wpAny_If (r7.test (fZ (d:=.none) (k:=0) (bE rfl (by decide)) rfl rfl) λs8 k8 r8=>?_))
  refine wpAny_execs_nil (wpAny_execs_nil ?_)
  subst hl'
  exact q s8 z rfl (r8.eff_out hW) (S7.keeps λb o zw=>aA k8 b o)
 | some rr =>
  have cr:Rd _ _ s6.heap 0 v6 (.list (rr.map .int)):=cr
  have htr:dI (.list (rr.map .int))=true:=by
   cases rr with
   | nil=>exact absurd rfl (hne [] rfl)
   | cons a as=>rfl
  refine r6.store (d:=.list (rr.map .int)) rfl (cr.imp (λb zw h z=>h ?_) (λzw zw zw h=>h) (Nat.le_refl 0)) λs7 c7 r7=>?_
  ·rcases z with z | z
   ·exact z
   ·exact r5.wo b z
  ((show let Q0:=_; wpAny _ _ _ Q0 _ _); intro Q0)
  have S7:Srt g T s7.heap l' { σ with ready:=some σ.roots }:=S6.keeps (r6.same c7)
  refine wpAny_execs_cons (wpAny_If (r7.test (fZ (d:=.list (rr.map .int)) (k:=0) (bE rfl (by decide)) rfl rfl) λs8 k8 r8=>?_))
  refine(if_pos htr).mpr ?_
  refine wpAny_execs_cons (r8.raiseC (C:=C) (x:="CycleError") (y:="cycle") (d:=.list (rr.map .int)) XK rfl hC (by decide) rfl (show(("cycle":Str)==("__debug__":Str))=false by decide) λs9 e ob vs k9 hen he hcl hd h1 h2=>?_)
  have r9:=r8.keeps k9
  have S9:Srt g T s9.heap l' { σ with ready:=some σ.roots }:=(S7.keeps λb o zw=>aA k8 b o).keeps λb o zw=>aA k9 b o
  refine r9.leaves he hd h1 h2 λs' Te cx' hTn fl=>?_
  rw [hcl] at fl
  have heW:¬l'.W e:=λh=>by
   obtain⟨o,eo⟩:=r8.act.aO e (r8.wo e h)
   rw [hen] at eo; cases eo
  have hTW:¬l'.W Te:=λh=>by
   obtain⟨o,eo⟩:=r9.act.aO Te (r9.wo Te h)
   rw [hTn] at eo; cases eo
  have hT8:s8.heap.get? Te=none:=by
   cases h:s8.heap.get? Te with
   | none=>rfl
   | some o=>have:=aA k9 _ _ h; rw [hTn] at this; cases this
  have cx9:Cx l'.W c.Fc s8 s':=(Cx.of_keeps (W:=l'.W) (F:=c.Fc) k9).step cx' (λb hb=>.inr (by rw [hb]; exact hen)) λzw h=>.inl h
  obtain⟨hTe,oe,vs',oT,ts,f1,f2,f3,f4,f5,f6,f7,f8⟩:=id fl
  have kp:∀b o,l'.W b->s9.heap.get? b=some o->s'.heap.get? b=some o:=λb o hb eb=>(cx'.2 b o (λz=>heW (z ▸ hb)) eb).2 (r9.at.wf b hb)
  have S':Srt g T s'.heap l' { σ with ready:=some σ.roots }:=S9.keeps λb o hb eb=>kp b o hb eb
  have r':=r8.eff (W':=λb=>l'.W b\/b=e\/b=Te) cx9 (λzw h=>.inl h) (λb hb=>by
   rcases hb with hb | rfl | rfl
   ·exact .inl hb
   ·exact .inr hen
   ·exact .inr hT8) λb hb=>by
    rcases hb with hb | rfl | rfl
    ·obtain⟨o,eo⟩:=r9.act.aO b (r9.wo b hb)
     exact⟨o,kp b o hb eo⟩
    ·exact⟨_,f1⟩
    ·exact⟨_,f5⟩
  have old:∀b,¬l'.W b->s8.heap.get? b=none->s.heap.get? b=none:=λb hb h8=>by
   cases h:s.heap.get? b with
   | none=>rfl
   | some o =>
    obtain⟨⟨sl,e'⟩,_⟩:=r8.cx.2 b o (λh=>hb (hW b h)) h
    rw [h8] at e'; cases e'
  have oe:=old e heW hen
  have oT:=old Te hTW hT8
  subst hl'
  exact qr s' z e Te rfl (r'.eff_out λb hb=>.inl (hW b hb)) S' fl heW hTW oe oT
set_option backward.match.sparseCases false
noncomputable def pG:D->Bool
 | .list _=>true
 | .int _=>true
 | _=>false
theorem init_is {m:Addr}{om:Obj}(hd:pG d=true)(rv:Rd O M s.heap 0 v d)(hm:s.heap.get? m=some om)(hc:om.cls=.type "object")
  (q:Q (.bool false) s):wpAny g.M A (compareOp .Is v (.ref m)) Q E s:=by
 cases d with
 | list ds =>
  obtain⟨a,vs,n,rfl,h1,h2,h3,h4,h5⟩:=bC rv
  refine wpAny_is_ref_other (λz=>?_) h2 hm (by simp) q
  have h2:s.heap.get? a=_:=h2
  rw [z,hm] at h2
  have h2:=Option.some.inj h2
  rw [h2] at hc
  simp at hc
 | int i =>
  obtain⟨t,rfl⟩:=aH rv
  exact wpAny_is_other rfl (λz=>by cases z) q
 | _=>first | exact no hd | exact nb hd | cases hd
theorem Run.lose {W X:Avoid}(r:Run c O M W V s)(hX:∀b,X b->W b)(hs:∀b,X b->c.s.heap.get? b=none)(hz:∀b,X b->c.zs.heap.get? b=none)(hzO:∀b,c.zO b->∃o,c.zs.heap.get? b=some o)(hcO:∀b,c.O b\/c.M b\/c.W b\/c.F b->∃o,c.s.heap.get? b=some o)
  (ch:Chg X s s') (kd:∀b,X b->∃o,s.heap.get? b=some o/\isFS o=true):Run c (λb=>O b/\¬X b) M (λb=>W b/\¬X b) V s':=by
 have old:∀b,(∃o,c.s.heap.get? b=some o)->¬X b:=λb ⟨o,e⟩ z=>by rw [hs b z] at e; cases e
 have gX:∀b o,c.g.h.get? b=some o->¬X b:=λb o e=>old b ⟨o,r.u0 b o e⟩
 have lv:∀b,¬X b->(∃o,s.heap.get? b=some o)->∃o,s'.heap.get? b=some o:=λb h ⟨o,e⟩=>⟨o,ch.2 b o h e⟩
 have lX:¬X c.env.locals:=λz=>(r.wp _ (hX _ z)).e.1 rfl
 have pX:∀b,c.P b->¬X b:=λb hb z=>(r.wp _ (hX _ z)).p hb
 have mX:∀b,M b->¬X b:=λb hb z=>(r.wp _ (hX _ z)).m hb
 exact { r with
  act:=⟨ch.up r.act.up gX,λb hb=>lv b hb.2 (r.act.aO b hb.1),λb hb=>lv b (mX b hb) (r.act.aM b hb),(r.act.eo.chgW ch (λb h=>r.wo b (hX b h)) kd).impO λb h=>h.1,r.act.fo.chgW ch kd⟩
  pl:=⟨r.pl.store,λb h=>⟨r.pl.po b h,pX b h⟩,r.pl.pg,r.pl.live⟩
  aw:=λb hb=>lv b (old b (hcO b (.inr (.inr (.inl hb))))) (r.aw b hb)
  ca:=λy b h=>lv b (λz=>(r.wp _ (hX _ z)).e.2 y b h rfl) (r.ca y b h)
  frm:=r.frm.cx (W:=X) (F':=No) (.of_chg ch) (λb hb z=>old b (hcO b (.inr (.inr (.inr z)))) hb)
  cx:=r.cx.step (W:=X) (F:=No) (.of_chg ch) (λb hb=>.inr (hs b hb)) (λzw h=>h.elim)
  oo:=λb h=>⟨r.oo b h,old b (by
   rcases h with h | h | h
   ·exact hcO b (.inl h)
   ·exact hcO b (.inr (.inl h))
   ·exact hcO b (.inr (.inr (.inr h))))⟩
  on:=λb h=>r.on b h.1
  lo:=⟨r.lo,lX⟩
  nf:=λb hb z=>r.nf b hb z.1
  wo:=λb h=>⟨r.wo b h.1,h.2⟩
  ww:=λb h=>r.ww b h.1
  wp:=λb h=>r.wp b h.1
  zk:=λb o hb e=>ch.2 b o (λz=>by rw [hz b z] at e; cases e) (r.zk b o hb e)
  zo:=λb hb=>let z:=r.zo b hb; ⟨z.1,z.2.1,z.2.2.1,λh=>z.2.2.2.1 h.1,z.2.2.2.2⟩
  zx:=λb h=>lv b (λz=>by obtain⟨o,e⟩:=h; rw [hz b z] at e; cases e) (r.zx b h)
  oz:=λb h=>r.oz b h.1
  ou:=λb h=>⟨r.ou b h,λz=>by obtain⟨o,e⟩:=hzO b h; rw [hz b z] at e; cases e⟩ }
structure RedFn (K:Frag) (f miss:Addr) (code:Value):Prop where
 fn:FnD K f (fnOf "reduce").1 (fnOf "reduce").2.1 ["function","sequence","initial"] 3 [] code
 ns:nsIn K mainGlobals "_initial_missing"=some (some (.ref miss))
 obj:∃om,K.lookup miss=some om/\om.cls=.type "object"
theorem or_self {W:Avoid}(h:∀b,W b->O b):(λb=>O b\/W b)=O:=funext λb=>propext ⟨λz=>z.elim id (h b),.inl⟩
theorem qT {f red miss:Addr}{code vseq v0:Value}{items:List D}{d0:D}{acc:Nat->D}(at_:At g (n+1) A O M No F s)(rf:RedFn g.K red miss code)(hiter:Callee g "iter" (.builtin "iter"))
  (rs:Rd O M s.heap 0 vseq (.list items)) (r0:Rd O M s.heap 0 v0 d0) (hd:pG d0=true) (Lean:Heap->Prop) (hkeep:∀s',Cx No F s s'->Lean s'.heap) (hfn:∀h,Lean h->FnAt f h) (h0:acc 0=d0)
  (hstep:∀(i:Nat) e (O':Avoid) A' s' E' v1 v2,items[i]?=some e->Lean s'.heap->g.Up s'->Room n A'->Alloc O' s'->(∀b,O' b->O b\/M b\/s.heap.get? b=none)->Rd O' No s'.heap 0 v1 (acc i)->Rd O' No s'.heap 0 v2 e->wpAny g.M A' (call (.ref f) [v1,v2]) (λv s''=>Keeps s' s''/\Rd O' No s''.heap 0 v (acc (i+1))) E' s')
  (q:∀v s',Cx No F s s'->Rd O M s'.heap 0 v (acc items.length)->R (.ok (.ret v)) s') :
  codeAny g.M A (.call (.ref red) ⟨[.ref f,vseq,v0],[]⟩) R s:=by
 obtain⟨om,ho,hoc⟩:=rf.obj
 refine zY (ds:=[objD f,.list items,d0]) (es:=[]) at_ rf.fn (.cons .obj (.cons rs (.cons r0 .nil))) .nil rfl rfl rfl λenv P O' s2 r hc hk=>?_
 revert r
 (show let c:Fx:=_; Run c _ _ _ _ _->_)
 intro c r
 ((show let Q0:=_; wpAny _ _ _ Q0 _ _); intro Q0)
 generalize hρ:((((⟨(fnOf "reduce").2.1,[]⟩:Rho).put "function" (objD f) 0).put "sequence" (.list items) 0).put "initial" d0 0)=V at r
 revert r
 revert hρ
 revert V
 refine id ?_
 intro V hρ r
 ((show let Q0:=_; let E0:=_; wpAny _ _ _ Q0 E0 _); intro Q0 E0)
 have hsc:V.sc=(fnOf "reduce").2.1:=by rw [<- hρ]; rfl
 have hf:V.is "function" (objD f):=by rw [<- hρ]; rfl
 have hs:V.is "sequence" (.list items):=by rw [<- hρ]; rfl
 have hi:V.is "initial" d0:=by rw [<- hρ]; rfl
 clear hρ
 conv in (fnOf _).1=>whnf
 cases hiter with
 | bt b1 b2 b3 =>
 refine wpAny_execs_cons (r.assignS rfl (Call_ (aT r.act.up r.act.eo (by rw [hsc]; rfl) b1 b2 b3 (by decide) (callWith_builtin (aL rfl) (aK rfl (wpAny_items_cons (r.name hs (by decide) λv rv=>wpAny_items_nil ?_) rfl))))))
 obtain⟨a,vs,m,rfl,l1,l2,l3,l4,l5⟩:=bC rv
 refine qF (g:=g) l2 ?_
 ((show let Q0:=_; let E0:=_; wpAny _ _ _ Q0 E0 _); intro Q0 E0)
 have k3:Keeps s2 { s2 with heap:=s2.heap.push (dG a 0) }:=aI s2 _ _
 have hn3:s2.heap.get? s2.heap.objs.size=none:=bZ (aD s2)
 have hi3:({ s2 with heap:=s2.heap.push (dG a 0) }:Shared).heap.get? s2.heap.objs.size=some (dG a 0):=Heap.get?_push_size _ rfl
 generalize ({ s2 with heap:=s2.heap.push (dG a 0) }:Shared)=s3 at k3 hi3 ⊢
 revert hi3
 revert k3
 revert s3
 refine id ?_
 intro s3 k3 hi3
 ((show let Q0:=_; let E0:=_; wpAny _ _ _ Q0 E0 _); intro Q0 E0)
 generalize s2.heap.objs.size=it at hn3 hi3 ⊢
 revert hi3
 revert hn3
 revert it
 refine id ?_
 intro it hn3 hi3
 ((show let Q0:=_; wpAny _ _ _ Q0 _ _); intro Q0)
 have r3:=r.grow k3 hn3 ⟨_,hi3⟩
 have hWO:∀b,(No b\/b=it)->(O' b\/(No b\/b=it)):=λb h=>.inr h
 have nn:∀b,(s2.heap.get? b).isSome=true->¬O' b->¬(O' b\/(No b\/b=it)):=λb hb h z=>by
  rcases z with z | z | z
  ·exact h z
  ·exact z
  ·rw [z,hn3] at hb; cases hb
 have l3:Rds (λb=>O' b\/(No b\/b=it)) No s3.heap 0 vs.toList items:=(l3.imp nn (λzw zw zw h=>h) (Nat.zero_le _)).keeps (aA k3)
 have l4:¬(O' a\/(No a\/a=it)):=nn a (by rw [show s2.heap.get? a=_ from l2]; rfl) l4
 have l2:IsL s3.heap a vs m:=aA k3 _ _ l2
 obtain⟨O3,hO3⟩:∃O3:Avoid,O3=λb=>O' b\/(No b\/b=it):=⟨_,rfl⟩
 have l4:¬O3 a:=by rw [hO3]; exact l4
 rw [<- hO3] at r3 l3
 have off:∀{t t':Shared},Chg (PM P No) t t'->∀b o,¬O3 b->t.heap.get? b=some o->t'.heap.get? b=some o:=λch b o hb e=>ch.2 b o (λz=>hb (by
  rcases z with z | z
  ·exact r3.pl.po b z
  ·exact z.elim)) e
 refine r3.store (d:=objD it) (kE hsc rfl) .obj λs4 c4 r4=>?_
 ((show let Q0:=_; wpAny _ _ _ Q0 _ _); intro Q0)
 have hi4:s4.heap.get? it=some (dG a 0):=r3.same c4 _ _ (.inr rfl) hi3
 have l3:=l3.off (off c4)
 have l2:IsL s4.heap a vs m:=off c4 _ _ l4 l2
 have hf:=Rho.is_ne (x:="it") (d':=objD it) (k:=0) hf rfl
 have hi:=Rho.is_ne (x:="it") (d':=objD it) (k:=0) hi rfl
 have hit:=Rho.is_put (V:=V) (x:="it") (d:=objD it)
 have hsc:(V.put "it" (objD it) 0).sc=(fnOf "reduce").2.1:=hsc
 generalize V.put "it" (objD it) 0=V4 at hf hi hit hsc r4
 revert r4
 revert hsc
 revert hit
 revert hi
 revert hf
 revert V4
 refine id ?_
 intro V4 hf hi hit hsc r4
 refine wpAny_execs_cons (wpAny_If (wpAny_isTrue_Compare1 (r4.name hi (by decide) λv rv=>bG r4.act.up r4.act.eo (by rw [hsc]; rfl) rf.ns (by decide) (init_is (g:=g) hd rv (r4.now _ _ ho) hoc (wpAny_truthy_bool ?_))) rfl))
 refine wpAny_execs_cons (r4.assignS rfl (r4.name hi (by decide) λv rv=>r4.store (kE hsc rfl) rv λs5 c5 r5=>wpAny_execs_nil ?_))
 ((show let Q0:=_; let E0:=_; wpAny _ _ _ Q0 E0 _); intro Q0 E0)
 have hi5:s5.heap.get? it=some (dG a 0):=r4.same c5 _ _ (.inr rfl) hi4
 have l3:=l3.off (off c5)
 have l2:IsL s5.heap a vs m:=off c5 _ _ l4 l2
 have hf:=Rho.is_ne (x:="value") (d':=d0) (k:=0) hf rfl
 have hit:=Rho.is_ne (x:="value") (d':=d0) (k:=0) hit rfl
 have hv:=Rho.is_put (V:=V4) (x:="value") (d:=d0)
 have hsc:(V4.put "value" d0 0).sc=(fnOf "reduce").2.1:=hsc
 generalize V4.put "value" d0 0=V5 at hf hit hv hsc r5
 rw [<- h0] at hv
 have ll:=l3.length
 rw [Array.length_toList] at ll
 refine wpAny_execs_cons (wpAny_For ?_ (bU rfl env))
 refine r5.nameA hit (by decide) (wpAny_pyIter_listiter (i:=0) ⟨_,hi5,rfl,rfl⟩ ?_)
 let c:Fx:=⟨g,n,A,env,P,O,M,No,F,s,No,O',s2⟩
 refine codeAny_forLoop_any (prog:=g.prog) (w:=g.w) (λk t=>∃i V',k=items.length+1 - i/\i<=items.length/\t.heap.IsListIter it a i/\IsL t.heap a vs m/\Rds O3 No t.heap 0 vs.toList items/\Run c O3 No (λb=>No b\/b=it) V' t/\V'.is "function" (objD f)/\V'.is "value" (acc i)/\V'.sc=(fnOf "reduce").2.1) ?_ (items.length+1)
  ⟨0,V5,rfl,Nat.zero_le _,⟨_,hi5,rfl,rfl⟩,l2,l3,r5,hf,hv,hsc⟩
 clear hv hf hsc hit r5 r4 r3 l2 l3 hi5
 intro k t hinv
 ((show let Q0:=_; let E0:=_; wpAny _ _ _ Q0 E0 _); intro Q0 E0)
 refine wp_q λQ_0 hQ0=>?_
 obtain⟨i,V',rfl,hle,ht,l2,l3,r',hf,hv,hsc⟩:=hinv
 have hne:a≠it:=λz=>l4 (by rw [z]; exact r'.wo _ (.inr rfl))
 by_cases hlt:i < items.length
 ·have hd:items[i]?=some items[i]:=List.getElem?_eq_getElem hlt
  obtain⟨v,hvv,hrv⟩:=l3.get hd
  refine wpAny_pyNext_list_item ht (IsL.isList l2) (by rw [<- Array.getElem?_toList]; exact hvv) λh_1 hit1 hs1=>hQ0 _ _ (cC (g:=g) ⟨_,_,rfl⟩ ?_)
  have o1:∀b o,¬O3 b->t.heap.get? b=some o->h_1.get? b=some o:=λb o hb e=>(hs1.2 b λz=>hb (by rw [z]; exact r'.wo _ (.inr rfl))).trans e
  have r1:Run c O3 No (λb=>No b\/b=it) V' { t with heap:=h_1 } :=
   dW (tk:=t.toks) r' hs1 (.inr rfl) (by obtain⟨o,e,_⟩:=hit1; exact⟨o,e⟩)
  refine r1.assign (d:=items[i]) (kE hsc rfl) (hrv.off o1) λs2' c2 r2=>?_
  ((show let Q0:=_; wpAny _ _ _ Q0 _ _); intro Q0)
  refine wp_q λQs hQs=>?_
  have hf:=Rho.is_ne (x:="element") (d':=items[i]) (k:=0) hf rfl
  have hv:=Rho.is_ne (x:="element") (d':=items[i]) (k:=0) hv rfl
  have he:=Rho.is_put (V:=V') (x:="element") (d:=items[i])
  have hsc:(V'.put "element" items[i] 0).sc=(fnOf "reduce").2.1:=hsc
  generalize V'.put "element" items[i] 0=V2 at hf hv he hsc r2
  have Ln:=hkeep s2' r2.cx
  refine wpAny_execs_cons (r2.assignS rfl (Call_ (r2.nameA hf (by decide) (callWith_F (hfn _ Ln) (wpAny_items_cons (r2.name hv (by decide) λv1 rv1=>wpAny_items_cons (r2.name he (by decide) λv2 rv2=>wpAny_items_nil ⟨hfn _ Ln,?_⟩) rfl) rfl)))))
  refine wpAny_mono (hstep i _ O3 _ _ _ v1 v2 hd Ln r2.act.up r2.rm r2.act.aO r2.on rv1 rv2) (λv s3' h=>?_) λzw zw z=>z
  obtain⟨k3',rv3⟩:=h
  have r3:=r2.keeps k3'
  refine r3.store (kE hsc rfl) rv3 λs4' c4' r4=>wpAny_execs_nil ?_
  have thr:∀b o,¬O3 b->t.heap.get? b=some o->s4'.heap.get? b=some o:=λb o hb e=>off c4' b o hb (aA k3' _ _ (off c2 b o hb (o1 b o hb e)))
  refine hQs _ _ ⟨items.length+1 - (i+1),by grind,i+1,_,rfl,by assumption,?_,thr _ _ l4 l2,l3.off thr,r4,Rho.is_ne hf rfl,Rho.is_put,hsc⟩
  obtain⟨o,e,rr⟩:=hit1
  exact⟨o,r3.same c4' _ _ (.inr rfl) (aA k3' _ _ (r1.same c2 _ _ (.inr rfl) e)),rr⟩
 ·have hie:i=items.length:=by grind
  subst hie
  refine wpAny_pyNext_list_end r'.rm.handled ht (IsL.isList l2) (by simp [ll]) λh_1 he1=>hQ0 _ _ (wpAny_execs_nil ?_)
  have hs0:s.heap.get? it=none:=by
   cases e:s.heap.get? it with
   | none=>rfl
   | some o=>rw [hk _ _ e] at hn3; cases hn3
  have r1:=r'.lose (X:=λb=>b=it) (s':={ t with heap:=h_1 }) (λb h=>.inr h) (λb h=>by rw [h]; exact hs0) (λb h=>by rw [h]; exact hn3) (λb h=>r.act.aO b h) (λb h=>by
   rcases h with h | h | h | h
   ·exact at_.aO b h
   ·exact at_.aM b h
   ·exact h.elim
   ·exact at_.aF b h) ⟨⟨h_1,t.toks,rfl⟩,λb o hb e=>he1 b o hb e⟩ (λb h=>by
    rw [h]
    obtain⟨o,e,h1,h2⟩:=ht
    exact⟨o,e,by unfold isFS; rw [h2]⟩)
  refine wpAny_execs_cons (wpAny_Return_some (r1.name hv (by decide) λv rv=>?_))
  exact q v _ r1.cx ((r1.rd_out rv).imp (λb zw h z=>h (Or.inl z)) (λb zw zw h z=>h z) (Nat.le_refl _))
set_option backward.match.sparseCases true
structure Nest (h:Heap) (a:Addr) (bs:List Addr) (xss:List (List Int)):Prop where
 top:∃m,IsL h a (bs.map Value.ref).toArray m
 sub:∀(i:Nat) b xs,bs[i]?=some b->xss[i]?=some xs->Ints h b xs
 len:bs.length=xss.length
 nd:(a::bs).Nodup
 small:bs.length<=1000
theorem Nest.keeps {bs:List Addr}{xss:List (List Int)}(x:Nest h a bs xss)(k:∀b o,b∈a::bs->h.get? b=some o->h'.get? b=some o):Nest h' a bs xss:=by
 obtain⟨⟨m,h1⟩,h2,h3,h4,h5⟩:=x
 exact⟨⟨m,k _ _ (by simp) h1⟩,λi b xs e1 e2=>(h2 i b xs e1 e2).keeps λo=>k _ o (by simp [List.mem_of_getElem? e1]),h3,h4,h5⟩
theorem Ints.rd {xs:List Int}(x:Ints h a xs)(hO:¬O a)(hM:¬M a):Rd O M h 0 (.ref a) (.list (xs.map .int)):=by
 obtain⟨vs,n,h1,h2,h3⟩:=x
 obtain⟨ys,e1,e2⟩:=cG h3
 exact .list hO (λzw=>hM) h2 h1 (by rw [e1,<- e2]; exact bH ys)
theorem Nest.rds {O M:Avoid}{h:Heap}:∀{bs:List Addr} {xss:List (List Int)},bs.length=xss.length->(∀(i:Nat) b xs,bs[i]?=some b->xss[i]?=some xs->Ints h b xs)->(∀b∈bs,¬O b/\¬M b)->Rds O M h 0 (bs.map Value.ref) (xss.map λxs=>.list (xs.map .int))
 | [],[],_,_,_=>.nil
 | [],_::_,hl,_,_=>by simp at hl
 | _::_,[],hl,_,_=>by simp at hl
 | b::bs,xs::xss,hl,hs,ho=>.cons ((hs 0 b xs rfl rfl).rd (ho b (by simp)).1 (ho b (by simp)).2) (Nest.rds (by simpa using hl) (λi b' xs' e1 e2=>hs (i+1) b' xs' e1 e2) λb' hb=>ho b' (by simp [hb]))
theorem Nest.rd {bs:List Addr}{xss:List (List Int)}(x:Nest h a bs xss)(ho:∀b∈a::bs,¬O b/\¬M b):Rd O M h 0 (.ref a) (.list (xss.map λxs=>.list (xs.map .int))):=by
 obtain⟨⟨m,h1⟩,h2,h3,h4,h5⟩:=x
 exact .list (ho a (by first | grind | simp)).1 (λzw=>(ho a (by first | grind | simp)).2) (by have:cap=100000:=rfl; simp; (exact Nat.le_trans (by assumption) (by decide))) h1 (Nest.rds h3 h2 λb hb=>ho b (by first | grind [hb] | simp [hb]))
theorem Nest.alloc {bs:List Addr}{xss:List (List Int)}(x:Nest h a bs xss):∀b∈a::bs,∃o,h.get? b=some o:=λb hb=>by
 rcases List.mem_cons.mp hb with rfl | hb
 ·obtain⟨m,e⟩:=x.top; exact⟨_,e⟩
 ·obtain⟨i,hi,e⟩:=List.getElem_of_mem hb
  have hi':i < xss.length:=by rw [<- x.len]; exact hi
  obtain⟨vs,n,e',_⟩:=x.sub i b _ (by rw [<- e]; exact List.getElem?_eq_getElem hi) (List.getElem?_eq_getElem hi')
  exact⟨_,e'⟩
theorem Run.evG {W:Avoid}(r:Run c O M W V s)(x:EvS c.g c.n V e d k)
  (q:∀v s',Keeps s s'->Rd O M s'.heap k v d->Run c O M W V s'->Q v s'):wpAny c.g.M c.Ar (eval e c.env) Q E s :=
 wpAny_mono (x O M c.env c.Ar s E r.act.up r.rm r.act.aO r.act.aM r.act.eo) (λv s' ⟨k,rd⟩=>q v s' k rd (r.keeps k)) λzw zw z=>z
noncomputable def SS.fine (σ:SS):Bool:=σ.nodes.all (λnd=>nd.succ.all σ.has)
section
structure BoundK (K:Frag) (f:Addr):Prop where
 get:specialIn K (.ref f) "__get__"=some (some (.builtin "function.__get__"))
 takes:takesIn K (.ref f)=some false
 fn:fnIn K f=true
end
theorem Run.own {W:Avoid}{Q:Flow->Shared->Prop}(r:Run c O No W V s)(hx:stOk V x=true)(hv:swapsWith e (some (.Name x np)) p.line c.env=pure false)(ev:EvF c.g c.n V e ds)(hpl:plainDs ds=true)
  (q:∀l s',Run c O (λb=>b=l) W (V.put x (.list ds) 1) s'->(∀b o,W b->s.heap.get? b=some o->s'.heap.get? b=some o)->Q .next s') :
  wpAny c.g.M c.Ar (exec (.Assign [.Name x np] e p) c.env) Q E s:=by
 refine wpAny_Assign_Name ?_ hv
 refine wpAny_mono (ev O c.env c.Ar s _ r.act.up r.rm r.act.aO r.act.eo) (λv s_1 hJ0=>?_) λzw zw z=>z
 obtain⟨k1,l,hl,hnew,rd1⟩:=hJ0
 subst hl
 have r1:=r.keeps k1
 have a1:=r1.act
 have pl:=r.pl
 obtain⟨l',vs,m,e',h1,h2,h3,h4,_⟩:=bC rd1
 cases e'
 let M:Avoid:=λb=>b=l
 have own:OwnV M (.ref l):=⟨l,rfl,λb=>Iff.rfl⟩
 have items:Rds O M s_1.heap 0 vs.toList ds:=Rds.part (by simpa [bD] using hpl) rd1 hpl (by simp) h3
 have eo:EnvOk O M V c.env s_1.heap:=⟨a1.eo.kind,a1.eo.gl,a1.eo.bl,a1.eo.sc,a1.eo.apart,λy dd k hy=>by
  obtain⟨w,g1,g2,g3⟩:=r.act.eo.vars y dd k hy
  have hk:k=0:=by
   cases k with
   | zero=>rfl
   | succ k=>exact(no_own (g3 (by simp))).elim
  subst hk
  exact⟨w,g1.keeps (aA k1),(g2.fresh hnew rfl).keeps (aA k1),λz=>absurd rfl z⟩⟩
 have hs:=m8 r.act.eo hx
 have plM:Pl c.g O M c.P c.env:=⟨pl.store,pl.po,λb o e=>⟨(pl.pg b o e).1,λz=>by have:=r.act.up b o e; rw [z,hnew] at this; cases this⟩,pl.live⟩
 refine iD eo a1.fo hs (.list h4 (λz=>by cases z) h1 h2 items:Rd O M s_1.heap 1 (.ref l) (.list ds)) (λzw=>own) λh' tk st eo' fo'=>?_
 have ch:Chg c.P s_1 { s_1 with heap:=h',toks:=tk }:=⟨⟨h',tk,rfl⟩,λb o hb e=>st.same.extBut b o (λz=>hb (z ▸ pl.store x hs)) e⟩
 have lv:=pl.live { s_1 with heap:=h',toks:=tk } fo'
 have aM:Alloc M { s_1 with heap:=h',toks:=tk }:=λb hb=>by
  have hb:b=l:=hb
  subst hb
  exact⟨_,st.seqs _ _ _ _ h2⟩
 have act:Act c.g O M (V.put x (.list ds) 1) c.env { s_1 with heap:=h',toks:=tk }:=⟨ch.up a1.up λb o e=>(pl.pg b o e).1,ch.alloc a1.aO λb zw hb=>lv b hb,aM,eo'.same (Same.refl.put _ _ _),fo'⟩
 have r2:Run c O No W ⟨V.sc,[]⟩ { s_1 with heap:=h',toks:=tk }:=r1.chg ch.pm ⟨act.up,act.aO,λzw h=>h.elim,⟨act.eo.kind,act.eo.gl,act.eo.bl,act.eo.sc,act.eo.apart,λy d k hy=>by cases hy⟩,fo'⟩
 have ne:∀b,(∃o,s.heap.get? b=some o)->¬M b:=λb ⟨o,eo⟩ z=>by
  have z:b=l:=z
  rw [z,hnew] at eo; cases eo
 refine q l _ { r2 with act:=act,pl:=plM,nm:=λb hb=>?_,nf:=λb hb=>?_,wp:=λb hb=>?_,zo:=λb hb=>?_ } λb o hb eo=>r1.same ch.pm b o hb (aA k1 _ _ eo)
 ·have hb:b=l:=hb
  rw [hb]; exact r.none0 hnew
 ·have hb:b=l:=hb
  rw [hb]; exact h4
 ·have w:=r2.wp b hb
  exact⟨w.p,ne b (r.act.aO b (r.wo b hb)),w.f,w.e,w.g⟩
 ·have z:=r2.zo b hb
  exact⟨z.1,z.2.1,ne b (r.zx b z.1),z.2.2.2⟩
structure FnQ (K:Frag) (f:Addr) (body:List Stmt) (names:List (Str×NameKind)) (params:List Str) (code:Value) (qual:Str):Prop where
 ex:∃c dd fd sl,K.lookup f=some ⟨c,dd,.func fd,sl⟩/\FnData fd body/\fd.closure=[]/\mR K fd.code fd.qualname=true/\fd.scope.names=names/\fd.code=code/\fd.qualname=qual/\(∀vs:List Value,vs.length=params.length->bindArgs fd ⟨vs,[]⟩=pure (params.zip vs))
 nm:c9 names []=true
set_option backward.match.sparseCases false
noncomputable def fnD (ss:List Stmt) (x:Str):Arguments×List Stmt×Scope:=((rI ss x).1,(rI ss x).2.1,(rI ss x).2.2.1)
noncomputable def tD (x:Str):=fnD PySem.Challenge.pw_ny0325_03.main.body x
noncomputable def mD (c x:Str):=fnD (zE PySem.Challenge.pw_ny0325_03.main.body c) x
noncomputable def fo (d:Arguments×List Stmt×Scope) (name qual:Str) (df md:Value) (cd:Addr):Obj:={ cls:=.type "function",data:=.func { name:=name,qualname:=qual,params:=d.1,body:=.stmts d.2.1,scope:=d.2.2,globals:=3,closure:=[],defaults:=df,kwdefaults:=.none,pyModule:=md,code:=.ref cd } }
noncomputable def co (vs:Array Value):Obj:={ cls:=.type "code",data:=.fields vs }
noncomputable def en (P:Params) (x:Str) (t:Tok) (v:Value):DictEntry:={ hash:=PyData.keyHash P x,key:=.str x t,val:=v }
noncomputable def K1 (P:Params):Frag:=[
(3,{ cls:=.type "dict",data:=.dict #[en P "__name__" 165 (.str "law_ny0325_03" 427),en P "__doc__" 166 (.none),en P "__package__" 167 (.none),en P "__loader__" 168 (.builtin "__main__.__loader__#opaque"),en P "__spec__" 169 (.none),en P "__annotations__" 170 (.ref 6),en P "__builtins__" 171 (.ref 4),en P "__file__" 173 (.str "/claim/cut.py" 172),en P "__cached__" 174 (.none),en P "_wall" 193 (.ref 21),en P "_NODE_OUT" 198 (.int (-1) 197),en P "_NODE_DONE" 201 (.int (-2) 200),en P "_NodeInfo" 238 (.ref 40),en P "CycleError" 256 (.ref 55),en P "TopologicalSorter" 375 (.ref 137),en P "_initial_missing" 378 (.ref 142),en P "reduce" 390 (.ref 150),en P "_MAX_STRING_SIZE" 394 (.int 40 393),en P "_MOVE_COST" 396 (.int 2 395),en P "_CASE_COST" 398 (.int 1 397),en P "_substitution_cost" 406 (.ref 157),en P "_levenshtein_distance" 426 (.ref 164),en P "_law_word" 435 (.ref 171),en P "_law_apart" 446 (.ref 178),en P "_law_melt" 452 (.ref 183),en P "_law_joined" 458 (.ref 188),en P "_law_refused" 465 (.ref 195),en P "_law_row" 471 (.ref 200),en P "_law_melted" 477 (.ref 205),en P "_law_by" 483 (.ref 210),en P "law" 489 (.ref 215)] 31 }),
(35,(co #[.str "__init__" 218,.str "_NodeInfo.__init__" 219,.str "/claim/cut.py" 220,.int 10 0,.int 2 0,.int 0 0,.int 0 0,.int 3 0,.ref 30,.bool true,.int 181 0,.ref 31,.none,.ref 32,.ref 33,.ref 34,.int 223 0,.int 10 0,.str "/claim/cut.py" 224])),
(36,fo (mD "_NodeInfo" "__init__") "__init__" "_NodeInfo.__init__" (.none) (.str "cpy313.graphlib" 194) 35),
(39,{ cls:=.type "dict",data:=.dict #[en P "__module__" 209 (.str "cpy313.graphlib" 194),en P "__firstlineno__" 213 (.int 7 212),en P "__slots__" 217 (.ref 29),en P "__init__" 225 (.ref 36),en P "__static_attributes__" 229 (.ref 37),en P "node" 231 (.ref 41),en P "npredecessors" 233 (.ref 42),en P "successors" 235 (.ref 43),en P "__doc__" 236 (.none)] 5 }),
(40,{ cls:=.type "type",data:=.cls { name:="_NodeInfo",bases:=[.type "object"],mro:=[.ref 40,.type "object"],ns:=39,qualname:="_NodeInfo",hasDict:=false,slotNames:=["node","npredecessors","successors"] },slots:=#[none,none,some (.str "_NodeInfo" 202),some (.str "_NodeInfo" 210),some (.builtin "object.__new__"),some (.bool false)] }),
(41,{ cls:=.type "member_descriptor",data:=.fields #[.str "node" 230,.ref 40,.builtin "proto.slot",.builtin "proto.slot#set",.int 2 0] }),
(42,{ cls:=.type "member_descriptor",data:=.fields #[.str "npredecessors" 232,.ref 40,.builtin "proto.slot",.builtin "proto.slot#set",.int 1 0] }),
(43,{ cls:=.type "member_descriptor",data:=.fields #[.str "successors" 234,.ref 40,.builtin "proto.slot",.builtin "proto.slot#set",.int 0 0] }),
(54,{ cls:=.type "dict",data:=.dict #[en P "__module__" 246 (.str "cpy313.graphlib" 194),en P "__firstlineno__" 250 (.int 14 249),en P "__static_attributes__" 251 (.ref 53),en P "__weakref__" 253 (.ref 56),en P "__doc__" 254 (.none)] 3 }),
(55,{ cls:=.type "type",data:=.cls { name:="CycleError",bases:=[.type "ValueError"],mro:=[.ref 55,.type "ValueError",.type "Exception",.type "BaseException",.type "object"],ns:=54,qualname:="CycleError" },slots:=#[some (.ref 46),none,some (.str "CycleError" 239),some (.str "CycleError" 247),some (.builtin "ValueError.__new__"),some (.bool true)] }),
(66,{ cls:=.type "tuple",data:=.seq #[.none] }),
(72,(co #[.str "__init__" 269,.str "TopologicalSorter.__init__" 270,.str "/claim/cut.py" 271,.int 18 0,.int 2 0,.int 0 0,.int 0 0,.int 3 0,.ref 67,.bool true,.int 181 0,.ref 68,.none,.ref 69,.ref 70,.ref 71,.int 276 0,.int 18 0,.str "/claim/cut.py" 277])),
(73,fo (mD "TopologicalSorter" "__init__") "__init__" "TopologicalSorter.__init__" (.ref 66) (.str "cpy313.graphlib" 194) 72),
(79,(co #[.str "_get_nodeinfo" 279,.str "TopologicalSorter._get_nodeinfo" 280,.str "/claim/cut.py" 281,.int 27 0,.int 2 0,.int 0 0,.int 0 0,.int 3 0,.ref 74,.bool true,.int 181 0,.ref 75,.none,.ref 76,.ref 77,.ref 78,.int 285 0,.int 27 0,.str "/claim/cut.py" 286])),
(80,fo (mD "TopologicalSorter" "_get_nodeinfo") "_get_nodeinfo" "TopologicalSorter._get_nodeinfo" (.none) (.str "cpy313.graphlib" 194) 79),
(86,(co #[.str "add" 288,.str "TopologicalSorter.add" 289,.str "/claim/cut.py" 290,.int 32 0,.int 2 0,.int 0 0,.int 0 0,.int 7 0,.ref 81,.bool true,.int 181 0,.ref 82,.none,.ref 83,.ref 84,.ref 85,.int 297 0,.int 32 0,.str "/claim/cut.py" 298])),
(87,fo (mD "TopologicalSorter" "add") "add" "TopologicalSorter.add" (.none) (.str "cpy313.graphlib" 194) 86),
(91,(co #[.str "prepare" 300,.str "TopologicalSorter.prepare" 301,.str "/claim/cut.py" 302,.int 41 0,.int 1 0,.int 0 0,.int 0 0,.int 3 0,.ref 88,.bool true,.int 181 0,.ref 89,.none,.none,.none,.ref 90,.int 303 0,.int 41 0,.str "/claim/cut.py" 304])),
(92,fo (mD "TopologicalSorter" "prepare") "prepare" "TopologicalSorter.prepare" (.none) (.str "cpy313.graphlib" 194) 91),
(98,(co #[.str "get_ready" 306,.str "TopologicalSorter.get_ready" 307,.str "/claim/cut.py" 308,.int 49 0,.int 1 0,.int 0 0,.int 0 0,.int 3 0,.ref 93,.bool true,.int 181 0,.ref 94,.none,.ref 95,.ref 96,.ref 97,.int 313 0,.int 49 0,.str "/claim/cut.py" 314])),
(99,fo (mD "TopologicalSorter" "get_ready") "get_ready" "TopologicalSorter.get_ready" (.none) (.str "cpy313.graphlib" 194) 98),
(105,(co #[.str "is_active" 316,.str "TopologicalSorter.is_active" 317,.str "/claim/cut.py" 318,.int 60 0,.int 1 0,.int 0 0,.int 0 0,.int 3 0,.ref 100,.bool true,.int 181 0,.ref 101,.none,.ref 102,.ref 103,.ref 104,.int 320 0,.int 60 0,.str "/claim/cut.py" 321])),
(106,fo (mD "TopologicalSorter" "is_active") "is_active" "TopologicalSorter.is_active" (.none) (.str "cpy313.graphlib" 194) 105),
(119,(co #[.str "done" 330,.str "TopologicalSorter.done" 331,.str "/claim/cut.py" 332,.int 68 0,.int 1 0,.int 0 0,.int 0 0,.int 7 0,.ref 114,.bool true,.int 181 0,.ref 115,.none,.ref 116,.ref 117,.ref 118,.int 341 0,.int 68 0,.str "/claim/cut.py" 342])),
(120,fo (mD "TopologicalSorter" "done") "done" "TopologicalSorter.done" (.none) (.str "cpy313.graphlib" 194) 119),
(126,(co #[.str "_find_cycle" 344,.str "TopologicalSorter._find_cycle" 345,.str "/claim/cut.py" 346,.int 91 0,.int 1 0,.int 0 0,.int 0 0,.int 3 0,.ref 121,.bool true,.int 181 0,.ref 122,.none,.ref 123,.ref 124,.ref 125,.int 354 0,.int 91 0,.str "/claim/cut.py" 355])),
(127,fo (mD "TopologicalSorter" "_find_cycle") "_find_cycle" "TopologicalSorter._find_cycle" (.none) (.str "cpy313.graphlib" 194) 126),
(136,{ cls:=.type "dict",data:=.dict #[en P "__module__" 264 (.str "cpy313.graphlib" 194),en P "__firstlineno__" 268 (.int 16 267),en P "__init__" 278 (.ref 73),en P "_get_nodeinfo" 287 (.ref 80),en P "add" 299 (.ref 87),en P "prepare" 305 (.ref 92),en P "get_ready" 315 (.ref 99),en P "is_active" 322 (.ref 106),en P "__bool__" 329 (.ref 113),en P "done" 343 (.ref 120),en P "_find_cycle" 356 (.ref 127),en P "static_order" 363 (.ref 134),en P "__static_attributes__" 368 (.ref 135),en P "__dict__" 370 (.ref 138),en P "__weakref__" 372 (.ref 139),en P "__doc__" 373 (.none)] 4 }),
(137,{ cls:=.type "type",data:=.cls { name:="TopologicalSorter",bases:=[.type "object"],mro:=[.ref 137,.type "object"],ns:=136,qualname:="TopologicalSorter" },slots:=#[none,none,some (.str "TopologicalSorter" 257),some (.str "TopologicalSorter" 265),some (.builtin "object.__new__"),some (.bool true)] }),
(142,{ cls:=.type "object" }),
(143,{ cls:=.type "tuple",data:=.seq #[.ref 142] }),
(149,(co #[.str "reduce" 379,.str "reduce" 380,.str "/claim/cut.py" 381,.int 124 0,.int 3 0,.int 0 0,.int 0 0,.int 3 0,.ref 144,.bool true,.int 181 0,.ref 145,.none,.ref 146,.ref 147,.ref 148,.int 388 0,.int 124 0,.str "/claim/cut.py" 389])),
(150,fo (tD "reduce") "reduce" "reduce" (.ref 143) (.str "cpy313.functools" 376) 149),
(156,(co #[.str "_substitution_cost" 399,.str "_substitution_cost" 400,.str "/claim/cut.py" 401,.int 140 0,.int 2 0,.int 0 0,.int 0 0,.int 3 0,.ref 151,.bool true,.int 181 0,.ref 152,.none,.ref 153,.ref 154,.ref 155,.int 404 0,.int 140 0,.str "/claim/cut.py" 405])),
(157,fo (tD "_substitution_cost") "_substitution_cost" "_substitution_cost" (.none) (.str "cpy313.traceback" 391) 156),
(163,(co #[.str "_levenshtein_distance" 407,.str "_levenshtein_distance" 408,.str "/claim/cut.py" 409,.int 146 0,.int 3 0,.int 0 0,.int 0 0,.int 3 0,.ref 158,.bool true,.int 181 0,.ref 159,.none,.ref 160,.ref 161,.ref 162,.int 424 0,.int 146 0,.str "/claim/cut.py" 425])),
(164,fo (tD "_levenshtein_distance") "_levenshtein_distance" "_levenshtein_distance" (.none) (.str "cpy313.traceback" 391) 163),
(170,(co #[.str "_law_word" 429,.str "_law_word" 430,.str "/claim/cut.py" 431,.int 185 0,.int 1 0,.int 0 0,.int 0 0,.int 3 0,.ref 165,.bool true,.int 181 0,.ref 166,.none,.ref 167,.ref 168,.ref 169,.int 433 0,.int 185 0,.str "/claim/cut.py" 434])),
(171,fo (tD "_law_word") "_law_word" "_law_word" (.none) (.str "law_ny0325_03" 427) 170),
(177,(co #[.str "_law_apart" 436,.str "_law_apart" 437,.str "/claim/cut.py" 438,.int 187 0,.int 2 0,.int 0 0,.int 0 0,.int 3 0,.ref 172,.bool true,.int 181 0,.ref 173,.none,.ref 174,.ref 175,.ref 176,.int 444 0,.int 187 0,.str "/claim/cut.py" 445])),
(178,fo (tD "_law_apart") "_law_apart" "_law_apart" (.none) (.str "law_ny0325_03" 427) 177),
(182,(co #[.str "_law_melt" 447,.str "_law_melt" 448,.str "/claim/cut.py" 449,.int 193 0,.int 5 0,.int 0 0,.int 0 0,.int 3 0,.ref 179,.bool true,.int 181 0,.ref 180,.none,.none,.none,.ref 181,.int 450 0,.int 193 0,.str "/claim/cut.py" 451])),
(183,fo (tD "_law_melt") "_law_melt" "_law_melt" (.none) (.str "law_ny0325_03" 427) 182),
(187,(co #[.str "_law_joined" 453,.str "_law_joined" 454,.str "/claim/cut.py" 455,.int 200 0,.int 1 0,.int 0 0,.int 0 0,.int 3 0,.ref 184,.bool true,.int 181 0,.ref 185,.none,.none,.none,.ref 186,.int 456 0,.int 200 0,.str "/claim/cut.py" 457])),
(188,fo (tD "_law_joined") "_law_joined" "_law_joined" (.none) (.str "law_ny0325_03" 427) 187),
(194,(co #[.str "_law_refused" 459,.str "_law_refused" 460,.str "/claim/cut.py" 461,.int 207 0,.int 1 0,.int 0 0,.int 0 0,.int 3 0,.ref 189,.bool true,.int 181 0,.ref 190,.none,.ref 191,.ref 192,.ref 193,.int 463 0,.int 207 0,.str "/claim/cut.py" 464])),
(195,fo (tD "_law_refused") "_law_refused" "_law_refused" (.none) (.str "law_ny0325_03" 427) 194),
(199,(co #[.str "_law_row" 466,.str "_law_row" 467,.str "/claim/cut.py" 468,.int 213 0,.int 2 0,.int 0 0,.int 0 0,.int 3 0,.ref 196,.bool true,.int 181 0,.ref 197,.none,.none,.none,.ref 198,.int 469 0,.int 213 0,.str "/claim/cut.py" 470])),
(200,fo (tD "_law_row") "_law_row" "_law_row" (.none) (.str "law_ny0325_03" 427) 199),
(204,(co #[.str "_law_melted" 472,.str "_law_melted" 473,.str "/claim/cut.py" 474,.int 215 0,.int 1 0,.int 0 0,.int 0 0,.int 3 0,.ref 201,.bool true,.int 181 0,.ref 202,.none,.none,.none,.ref 203,.int 475 0,.int 215 0,.str "/claim/cut.py" 476])),
(205,fo (tD "_law_melted") "_law_melted" "_law_melted" (.none) (.str "law_ny0325_03" 427) 204),
(209,(co #[.str "_law_by" 478,.str "_law_by" 479,.str "/claim/cut.py" 480,.int 240 0,.int 2 0,.int 0 0,.int 0 0,.int 3 0,.ref 206,.bool true,.int 181 0,.ref 207,.none,.none,.none,.ref 208,.int 481 0,.int 240 0,.str "/claim/cut.py" 482])),
(210,fo (tD "_law_by") "_law_by" "_law_by" (.none) (.str "law_ny0325_03" 427) 209),
(214,(co #[.str "law" 484,.str "law" 485,.str "/claim/cut.py" 486,.int 245 0,.int 1 0,.int 0 0,.int 0 0,.int 3 0,.ref 211,.bool true,.int 181 0,.ref 212,.none,.none,.none,.ref 213,.int 487 0,.int 245 0,.str "/claim/cut.py" 488])),
(215,fo (tD "law") "law" "law" (.none) (.str "law_ny0325_03" 427) 214)]
set_option backward.match.sparseCases true
noncomputable def keep1:List Nat:=[0,2,3,4,5,6,8,11,12,13,14,15,17,18,19,20,21,22,23,24,25]
noncomputable def qG:Program:={ PySem.Challenge.pw_ny0325_03 with main:={ PySem.Challenge.pw_ny0325_03.main with body:=keep1.filterMap λi=>PySem.Challenge.pw_ny0325_03.main.body[i]? } }
noncomputable def posD (ss:List Stmt) (x:Str):Pos:=(rI ss x).2.2.2
noncomputable def d1:DefRec:=⟨"law",(tD "law").1,(tD "law").2.1,(tD "law").2.2,posD PySem.Challenge.pw_ny0325_03.main.body "law"⟩
noncomputable def adr1:List Addr:=[3,35,36,39,40,41,42,43,54,55,66,72,73,79,80,86,87,91,92,98,99,105,106,119,120,126,127,136,137,142,143,149,150,156,157,163,164,170,171,177,178,182,183,187,188,194,195,199,200,204,205,209,210,214,215]
theorem jH:∀P,adr1=(K1 P).map (·.1):=λzw=>by kernel_rfl
noncomputable def yJ:List Str:=["_initial_missing","reduce","_NodeInfo"]
theorem left1:LeftO PySem.Challenge.rw_ny0325_03.row.prog qG yJ (λs=>xlAt qG [] s && recOk (RowW.records PySem.Challenge.rw_ny0325_03.row.toRowW) s) (Hook.obs (kmHook K1 adr1 jH [])) (Hook.val (kmHook K1 adr1 jH [])) 2990:=λw=>by kernel_rfl
theorem hd1 (h:WalkO qG yJ (XL qG []) (Hook.says (kmHook K1 adr1 jH [])) PySem.Challenge.rw_ny0325_03.row.toRowW d1 [] λf vs=>call f vs):PySem.Challenge.rw_ny0325_03.Holds:=by
 refine holds_law (by decide +kernel) λsaid=>?_
 exact holds_open (q:=qG) (loose:=yJ) (Xt:=λs=>xlAt qG [] s && recOk (RowW.records PySem.Challenge.rw_ny0325_03.row.toRowW) s) (XP:=XL qG []) (Yf:=Hook.obs (kmHook K1 adr1 jH [])) (Ya:=Hook.val (kmHook K1 adr1 jH [])) (YP:=Hook.says (kmHook K1 adr1 jH [])) (N:=2990) left1 (Hook.of _) (Hook.keeps _) (λs e=>xl_of s (Bool.and_eq_true_iff.mp e).1) XL.keeps (by kernel_rfl) (by kernel_rfl) (by kernel_rfl) (λs e=>recFacts_of (Bool.and_eq_true_iff.mp e).2) (by kernel_rfl) said (by decide +kernel) ⟨rfl,rfl,rfl,rfl,rfl,by decide +kernel⟩ ⟨[.list []],by decide +kernel,by decide +kernel⟩ h
noncomputable def LawOk1 (fl:Addr):Prop:=∀(g:Glob) (P:Params) (A:Around) (s:Shared) (a:Addr) (xs:List Int),g.K=K1 P->g.w.params=P->At g 12 A No No No No s →
 Rd No No s.heap 0 (.ref a) (.list (xs.map .int))->xs.length<=63 →
 codeAny g.M A (.call (.ref fl) ⟨[.ref a],[]⟩) (λr s'=>r=.ok (.ret (.bool true))/\Cx No No s s') s
theorem mA {P:Params}{h:Heap}{O:Avoid}:∀{vs:List Value} {xs:List Int},WellAll P h vs (xs.map .int)->Rds O No h 0 vs (xs.map .int)
 | [],[],_=>.nil
 | [],_::_,w=>by cases w
 | _::_,[],w=>by cases w
 | v::vs,x::xs,w=>by
  cases w with
  | cons a b =>
   cases a with
   | int i t=>exact .cons .int (mA b)
theorem mE:∀(xs:List Int),ofPys (xs.map .int)=xs.map .int
 | []=>rfl
 | x::xs=>by
  show ofPys (.int x::xs.map .int)=.int x::xs.map .int
  simp [ofPys,ofPy,mE xs]
theorem xV:∀(xs:List Int),ofPy (.list (xs.map .int))=.list (xs.map .int):=λxs=>by
 simp [ofPy,mE]
set_option tactic.hygienic true in
theorem rd_well {xs:List Int}(w:Well P h v (ofPy (.list (xs.map .int))))(hx:xs.length<=63)(hO:∀b o,O b->h.get? b=some o->o.cls≠.type "list"):Rd O No h 0 v (.list (xs.map .int)):=by
 rw [xV] at w
 cases w with
 | list h1 h2 =>
  rename_i a vs
  have h3:=mA (O:=O) h2
  have hl:=h3.length
  rw [List.length_map] at hl
  exact .list (λz=>hO _ _ z h1 rfl) (λzw=>id) (by have:cap=100000:=rfl; simp; grind) h1 h3
set_option tactic.hygienic true in
theorem finish1 (fl:Addr)(hfl:∀P,nsIn (K1 P) mainGlobals "law"=some (some (.ref fl)))(L:LawOk1 fl):PySem.Challenge.rw_ny0325_03.Holds:=by
 refine hd1 ?_
 intro w s_0 s_1 mg mb G Y fa o pm cd doc dV kV ho hd hcd hD hmg hg args vals as hpre hlay hrd hwl hlo
 ((show let Q0:=_; let E0:=_; wpAny _ _ _ Q0 E0 _); intro Q0 E0)
 have KX:=km_in_of Y
 km_tabs Y
 have X:=(Ground.X G).1
 have VV:=(Ground.X G).2
 refine Ground.open G ?_
 intro T B D TE TW
 try (refine guard_noD D (by decide +kernel) ?_; clear D)
 have hT9:TabsAt ([]:List (Addr×Addr)) s_1.heap:=λzw h=>nomatch h
 wrow_args hpre hlay hrd hwl hlo
 rename_i xs _ _ _ _ _ _ _ a _ _ _ _ w1 _ _ _ hlen _
 refine enter_call ?_
 w_top on
 kn_posts
 have efa:fa=fl:=by
  have h1:mg "law"=some (.ref fa):=hmg
  have h2:=mg_of KX T.g (hfl w.params)
  rw [h1] at h2
  cases h2
  rfl
 subst efa
 clear hd hcd hD hmg G Y TE TW B VV X
 let g:Glob:=⟨Challenge.rw_ny0325_03.row.prog,w,K1 w.params,ghostOf s_1.heap [],mg,mb,ghost_K hT9 KX (by kernel_rfl),ghost_ns hT9 T.g,ghost_ns hT9 T.b,(ghost_top hT9 T).nolimit,T.builtins⟩
 have up:g.Up s_1:=λb o e=>of_hideAll _ e
 have at_:At g 12 callerA No No No No s_1:=⟨⟨up,λzw h=>h.elim,λzw h=>h.elim,λzw h=>h.elim,⟨⟨[],rfl,λzw h=>by cases h⟩,λzw zw zw h=>h⟩,λzw h=>h.elim,λzw h=>h.elim,λzw zw h=>h,λzw h=>h.elim⟩,⟨rfl,by decide,by decide⟩⟩
 have hlen:xs.length<=63:=by omega
 have rd:=rd_well (O:=No) w1 hlen λb o hb e=>hb.elim
 refine codeAny_mono (L g w.params callerA s_1 a xs rfl rfl at_ rd hlen) λr s' h=>?_
 obtain⟨rfl,cx⟩:=h
 refine⟨⟨.inl ⟨.bool true,.bool true,[],rfl,λzw=>rfl,.bool _,?post,λzw=>⟨.nil,λzw h=>by cases h⟩⟩,λb o e=>?_,?_,?_⟩,trivial⟩
 case post =>
  first | rfl | wrow_post
 ·exact(cx.2 b o id (up b o e)).2 id
 ·obtain⟨h,t,rfl⟩:=cx.1; rfl
 ·obtain⟨h,t,rfl⟩:=cx.1; exact hg
section
open PySem.Builtin.Str
noncomputable abbrev S (l:List Nat):Str:=⟨l.toArray⟩
theorem jU (l:List Nat):(S l).length=l.length:=by show l.toArray.size=_; simp
theorem fD (l:List Nat):(S l).cps.toList=l:=by show l.toArray.toList=_; simp
theorem sliceRange_one (i j:Nat)(h:i<=j):sliceRange (i:Int) (j:Int) 1=(List.range (j - i)).map λk=>i+k:=by
 unfold sliceRange
 have e:((if (1:Int) > 0 then (if (i:Int) < (j:Int) then ((j:Int) - i+1 - 1) / 1 else 0) else (if (i:Int) > (j:Int) then ((i:Int) - j - 1 - 1) / (-1) else 0))).toNat=j - i:=by
  rw [if_pos (by decide)]
  split
  ·rw [Int.ediv_one]; grind
  ·simp; grind
 dsimp only
 rw [e]
 refine List.map_congr_left λk zw=>?_
 grind
theorem uK (l:List Nat)(i c:Nat)(h:i+c<=l.length):((List.range c).map λk=>i+k).filterMap (l.toArray[·]?)=(l.drop i).take c:=by
 induction c generalizing i with
 | zero=>simp
 | succ c ih =>
  have hi:i < l.length:=by grind
  rw [List.range_succ_eq_map,List.map_cons,List.filterMap_cons]
  have e0:l.toArray[i+0]?=some l[i]:=by simp [hi]
  rw [e0]
  have:(List.map Nat.succ (List.range c)).map (λk=>i+k)=(List.range c).map λk=>(i+1)+k:=by
   rw [List.map_map]; refine List.map_congr_left λk zw=>?_; simp [Function.comp]; (simp +arith)
  rw [this,ih (i+1) (by grind),List.drop_eq_getElem_cons hi,List.take_succ_cons]
theorem kF {l:List Nat}{lo hi:Option Int}{i j:Nat}(hij:i<=j)(hj:j<=l.length)(h:strSliceIndices lo hi 1 l.length=sliceRange (i:Int) (j:Int) 1):Txt.slice (S l) lo hi=S ((l.drop i).take (j - i)):=by
 unfold Txt.slice
 rw [jU,h,sliceRange_one i j hij]
 have p:=uK l i (j - i) (by grind)
 split
 ·rename_i hc
  simp only [beq_self_eq_true,Bool.true_and,List.length_map,List.length_range,beq_iff_eq] at hc
  have:i=0/\j=l.length:=by grind
  obtain⟨rfl,rfl⟩:=this
  simp
 ·show(⟨(List.filterMap (l.toArray[·]?) _).toArray⟩:Str)=_
  rw [p]
theorem eF {l:List Nat}{i:Nat}(h:i<=l.length):Txt.slice (S l) (some (i:Int)) none=S (l.drop i):=by
 have:=kF (l:=l) (lo:=some (i:Int)) (hi:=none) (i:=i) (j:=l.length) h (Nat.le_refl _) (by
  unfold strSliceIndices
  dsimp only
  have h1:¬((i:Int) < 0):=by (simp +arith)
  have h2:(1:Int) > 0:=by decide
  simp only [h1,h2,if_true,if_false]
  congr 1
  grind)
 rw [this]
 congr 2
 rw [List.take_of_length_le (by simp)]
theorem w5 {l:List Nat}:Txt.slice (S l) none none=S l:=by
 have:=kF (l:=l) (lo:=none) (hi:=none) (i:=0) (j:=l.length) (Nat.zero_le _) (Nat.le_refl _) (by
  unfold strSliceIndices
  dsimp only
  rw [if_pos (by decide),if_pos (by decide)]
  rfl)
 rw [this]; simp
theorem uC {l:List Nat}{j:Nat}(h0:0 < j)(h:j<=l.length):Txt.slice (S l) none (some (-(j:Int)))=S (l.take (l.length - j)):=by
 have:=kF (l:=l) (lo:=none) (hi:=some (-(j:Int))) (i:=0) (j:=l.length - j) (Nat.zero_le _) (by (exact Nat.sub_le _ _)) (by
  unfold strSliceIndices
  dsimp only
  have h1:(-(j:Int) < 0):=by grind
  have h2:(1:Int) > 0:=by decide
  simp only [h1,h2,if_true]
  congr 1
  grind)
 rw [this]; simp
theorem d9 {l:List Nat}{i:Int}{j:Nat}(hc:l.length<=cap)(h:seqIndex? i l.length=some j)(hj:j < l.length):idxD (.str (S l)) i=some (.str (S [l[j]])):=by
 show(if (S l).length<=cap then Option.map (λc=>PyData.str { cps:=#[c] }) ((seqIndex? i (S l).length).bind λx_1=>(S l).cps[x_1]?) else none)=_
 rw [jU,if_pos hc,h]
 simp [hj]
theorem cX {i:Nat}(h:i < n):seqIndex? (i:Int) n=some i:=by
 unfold seqIndex?
 have h1:¬((i:Int) < 0):=by (simp +arith)
 simp only [h1,if_false]
 have:(decide (0<=(i:Int)) && decide ((i:Int) < n))=true:=by simp; assumption
 rw [if_pos this]; simp
theorem gA {i:Nat}(h0:0 < i)(h:i<=n):seqIndex? (-(i:Int)) n=some (n - i):=by
 unfold seqIndex?
 have h1:(-(i:Int) < 0):=by grind
 simp only [h1,if_true]
 have:(decide (0<=-(i:Int)+n) && decide (-(i:Int)+n < n))=true:=by simp; grind
 rw [if_pos this]
 congr 1
 grind
end
section
open PySem.Builtin.Str
section
variable {T:Tab}
theorem oS {α β:Type}{x:Option α}{f:α->β}{y:Option β}{a:α}(h:x=some a):orE x f y=some (f a):=h ▸ rfl
theorem fW {r:Option DK}(hk:T.hook V e=none)(h:wV T (Ev.at T n) V e=r):(Ev.at T (n+1)).e V e=r:=by
 show orE (T.hook V e) id (wV T (Ev.at T n) V e)=r
 rw [hk]; exact h
theorem gV {α:Type}{x:Option DK}{f:D->Nat->Option α}(h:x=some (d,k)):dkV x f=f d k:=h ▸ rfl
theorem gI {α:Type}{x:Option DK}{d:Int}{f:Int->Nat->Option α}(h:x=some (.int d,k)):dkI x f=f d k:=h ▸ rfl
theorem gS {α:Type}{x:Option DK}{d:Str}{f:Str->Nat->Option α}(h:x=some (.str d,k)):dkS x f=f d k:=h ▸ rfl
theorem gL {α:Type}{x:Option DK}{d:List D}{f:List D->Nat->Option α}(h:x=some (.list d,k)):dkL x f=f d k:=h ▸ rfl
theorem gAs {α:Type}{x:Option DK}{d:Str}{f:Str->Nat->Option α}{f':List D->Nat->Option α}(h:x=some (.str d,k)):dkA x f f'=f d k:=h ▸ rfl
theorem gAl {α:Type}{x:Option DK}{d:List D}{f:Str->Nat->Option α}{f':List D->Nat->Option α}(h:x=some (.list d,k)):dkA x f f'=f' d k:=h ▸ rfl
theorem bO {α β:Type}{x:Option α}{a:α}{f:α->Option β}(h:x=some a):x.bind f=f a:=h ▸ rfl
theorem aC {dk:DK}(hk:T.hook V (.Name x p)=none)(hd:(x==("__debug__":Str))=false)(h:V.vars.lookup x=some dk):(Ev.at T (n+1)).e V (.Name x p)=some dk :=
 fW hk ((if_neg (λz=>Bool.noConfusion (hd.symm.trans z))).trans h)
theorem bQ {i:Int}{c:Nat}(hk:T.hook V (.Constant (.int i) c p)=none):(Ev.at T (n+1)).e V (.Constant (.int i) c p)=some (.int i,0):=fW hk rfl
theorem r_none {c:Nat}(hk:T.hook V (.Constant .none c p)=none):(Ev.at T (n+1)).e V (.Constant .none c p)=some (.none,0):=fW hk rfl
theorem r_hk {dk:DK}(hk:T.hook V e=some dk):(Ev.at T (n+1)).e V e=some dk:=by
 show orE (T.hook V e) id (wV T (Ev.at T n) V e)=_
 rw [hk]; rfl
theorem b6 {l r:Expr}{op:Operator}{a b:D}{ka kb:Nat}(hk:T.hook V (.BinOp l op r p)=none)(x:(Ev.at T n).e V l=some (a,ka))(y:(Ev.at T n).e V r=some (b,kb))(h:binD op a ka b kb=some (d,k)):(Ev.at T (n+1)).e V (.BinOp l op r p)=some (d,k) :=
 fW hk (show binE _ V l r op=_ from(gV x).trans ((gV y).trans h))
theorem r_or2 {x y:Expr}{a:D}{r:Option DK}(hk:T.hook V (.BoolOp .Or [x,y] p)=none)(hx:(Ev.at T n).e V x=some (a,k))(hl:pQ a=true)(h:(if dI a=true then some (a,k) else (Ev.at T n).e V y)=r):(Ev.at T (n+1)).e V (.BoolOp .Or [x,y] p)=r :=
 fW hk (show or2E _ V x y=_ from(gV hx).trans ((if_pos hl).trans h))
theorem jR {o i:Expr}{a:D}{kz:Nat}{z:Int}(hk:T.hook V (.Subscript o i p)=none)(hs:SubS.notSlice i=true)(x:(Ev.at T n).e V o=some (a,k))(y:(Ev.at T n).e V i=some (.int z,kz))(h:idxD a z=some d):(Ev.at T (n+1)).e V (.Subscript o i p)=some (d,k - 1):=by
 have key:subE (Ev.at T n) V o i=idxE (Ev.at T n) V o i:=dif_neg (bne_iff_ne.mp hs)
 exact fW hk (key.trans ((if_pos hs).trans ((gV x).trans ((gI y).trans (bO h)))))
theorem uG {o:Expr}{lo hi:Option Expr}{q:Pos}{l h:Option Int}(hk:T.hook V (.Subscript o (.Slice lo hi none q) p)=none)(hx:(Ev.at T n).e V o=some (.str x,k))(hl:gJ (Ev.at T n) V lo=some l)(hh:gJ (Ev.at T n) V hi=some h)(hz:x.length<=cap) :
  (Ev.at T (n+1)).e V (.Subscript o (.Slice lo hi none q) p)=some (.str (Txt.slice x l h),0) :=
 fW hk (show orE (cutS _ V o lo hi none) id _=_ from oS ((bO hl).trans ((bO hh).trans ((gAs hx).trans (if_pos hz)))))
theorem gC {i:Int}(h:(Ev.at T n).e V e=some (.int i,k)):gJ (Ev.at T n) V (some e)=some (some i) :=
 show dkV ((Ev.at T n).e V e) (λd zw=>orE (onI some d) some ((nH d).bind λzw=>some none))=_ from(gV h).trans rfl
theorem xP (h:(Ev.at T n).e V e=some (.none,k)):gJ (Ev.at T n) V (some e)=some none :=
 show dkV ((Ev.at T n).e V e) (λd zw=>orE (onI some d) some ((nH d).bind λzw=>some none))=_ from(gV h).trans rfl
theorem gD {α β:Type}{f:α->Option β}{a:α}{b:β}(h:f a=some b):mapO f [a]=some [b]:=(bO h).trans rfl
theorem dM {α β:Type}{f:α->Option β}{a a':α}{b b':β}(h:f a=some b)(h':f a'=some b'):mapO f [a,a']=some [b,b']:=(bO h).trans ((bO (gD h')).trans rfl)
theorem oN {α β:Type}{x:Option α}{f:α->β}{y:Option β}(h:x=none):orE x f y=y:=h ▸ rfl
theorem kI {f:Str}{q:Pos}{args:List Expr}{vs:List DK}(hk:T.hook V (.Call (.Name f q) args [] p)=none)(hsc:V.sc.lookup f=some .globalImplicit)(hs:args.all aQ=true)(hv:mapO ((Ev.at T n).e V) args=some vs)(h9:lvl9 vs=true)(h:btD f (vs.map (·.1))=some d) :
  (Ev.at T (n+1)).e V (.Call (.Name f q) args [] p)=some (d,0) :=
 fW hk (show callE T _ V f args=_ from(if_pos ⟨hsc,hs⟩).trans ((bO hv).trans ((if_pos h9).trans (oS h))))
theorem r_fn {f:Str}{q:Pos}{args:List Expr}{vs:List DK}(hk:T.hook V (.Call (.Name f q) args [] p)=none)(hsc:V.sc.lookup f=some .globalImplicit)(hs:args.all aQ=true)(hv:mapO ((Ev.at T n).e V) args=some vs)(h9:lvl9 vs=true)(hb:btD f (vs.map (·.1))=none)(h0:lvl0 vs=true)(hd:(f==("__debug__":Str))=false)(h:T.call f (vs.map (·.1))=some d) :
  (Ev.at T (n+1)).e V (.Call (.Name f q) args [] p)=some (d,0) :=
 fW hk (show callE T _ V f args=_ from(if_pos ⟨hsc,hs⟩).trans ((bO hv).trans ((if_pos h9).trans ((oN hb).trans ((if_pos ⟨h0,hd⟩).trans (bO h))))))
theorem tU (hp:iO e=true)(h:(Ev.at T n).e V e=some (d,k))(hl:pQ d=true):(Ev.at T (n+1)).t V e=some (dI d):=by
 show stepT (Ev.at T n) V e=_
 have key:stepT (Ev.at T n) V e=testV (Ev.at T n) V e:=by
  have h:=hp
  unfold iO at h
  rw [Bool.and_eq_true,Bool.and_eq_true,Bool.and_eq_true,bne_iff_ne,bne_iff_ne,bne_iff_ne,bne_iff_ne] at h
  exact(dif_neg h.1.1.1).trans ((dif_neg h.1.1.2).trans (dif_neg h.2))
 exact key.trans ((if_pos hp).trans ((gV h).trans (if_pos hl)))
theorem cU {l r:Expr}{op:CmpOp}{a b:D}{ka kb:Nat}{c:Bool}(hm:behindInMarks op r=false)(ha:(Ev.at T n).e V l=some (a,ka))(hb:(Ev.at T n).e V r=some (b,kb))(hc:cmpD op a b=some c):(Ev.at T (n+1)).t V (.Compare l [op] [r] p)=some c :=
 show cmpE1 (Ev.at T n) V l id op r=_ from(if_pos hm).trans ((gV ha).trans ((gV hb).trans ((bO hc).trans rfl)))
theorem eE {x:Expr}{es:List Expr}{b c:Bool}(hx:(Ev.at T n).t V x=some b)(hr:b=true->(Ev.at T n).t V (.BoolOp .And es p)=some c):(Ev.at T (n+1)).t V (.BoolOp .And (x::es) p)=some (b && c) :=
 show boolT (Ev.at T n) V .And p (x::es)=_ from(bO hx).trans (by
  cases b with
  | true=>exact hr rfl
  | false=>rfl)
theorem wQ:(Ev.at T (n+1)).t V (.BoolOp .And [] p)=some true:=rfl
theorem t_or {x:Expr}{es:List Expr}{b c:Bool}(hx:(Ev.at T n).t V x=some b)(hr:b=false->(Ev.at T n).t V (.BoolOp .Or es p)=some c):(Ev.at T (n+1)).t V (.BoolOp .Or (x::es) p)=some (b || c) :=
 show boolT (Ev.at T n) V .Or p (x::es)=_ from(bO hx).trans (by
  cases b with
  | false=>exact hr rfl
  | true=>rfl)
theorem t_or0:(Ev.at T (n+1)).t V (.BoolOp .Or [] p)=some false:=rfl
theorem t_not {b:Bool}(h:(Ev.at T n).t V e=some b):(Ev.at T (n+1)).t V (.UnaryOp .Not e p)=some (!b) :=
 show(((Ev.at T n).t V e).bind λb=>some (!b))=_ from bO h
end
section
variable {R:Ev} {X:Rho->List Stmt->Option (Fl×Rho)}
theorem bY {v:Expr}(hx:stOk V x=true)(hv:fO v=true)(h:R.e V v=some (d,0)):bB R X V (.Assign [.Name x np] v p)=some (.next,V.put x d 0) :=
 show uU (oH R V x np v)=_ from bO (show oH R V x np v=some (V.put x d 0) from(if_pos hx).trans ((if_pos hv).trans ((gV h).trans rfl)))
theorem w9 {y:Str}{np':Pos}{v:Expr}(hx:stOk V x=true)(hy:stOk V y=true)(hv:fO v=true)(ht:isTuple v=false)(h:R.e V v=some (d,0)):bB R X V (.Assign [.Name x np,.Name y np'] v p)=some (.next,(V.put x d 0).put y d 0) :=
 show asg2E R V x y v=_ from(if_pos ⟨hx,hy,hv,ht⟩).trans ((gV h).trans rfl)
theorem s_aug {op:Operator}{v:Expr}{a b:D}(hx:stOk V x=true)(hl:V.vars.lookup x=some (a,0))(h:R.e V v=some (b,k))(hd:augD op a b=some d):bB R X V (.AugAssign (.Name x np) op v p)=some (.next,V.put x d 0) :=
 show augE R V x op v=_ from(if_pos hx).trans ((gV hl).trans ((gV h).trans ((if_pos rfl).trans (bO hd))))
theorem oZ {sp:Pos}{i v:Expr}{xs:List D}{z:Int}{kz:Nat}(hc:fO v=true/\dE i=true/\fQ V x=true/\SubS.notSlice i=true/\(x==("__debug__":Str))=false)(hv:R.e V v=some (d,0))(hl:V.vars.lookup x=some (.list xs,1))(hi:R.e V i=some (.int z,kz))(hz:0<=z/\z < xs.length) :
  bB R X V (.Assign [.Subscript (.Name x np) i sp] v p)=some (.next,V.put x (.list (xs.set z.toNat d)) 1) :=
 show setE R V x i v=_ from(if_pos hc).trans ((gV hv).trans ((gL hl).trans ((gI hi).trans (if_pos ⟨rfl,rfl,hz⟩))))
theorem s_if {t:Expr}{b o:List Stmt}{c:Bool}{r:Option (Fl×Rho)}(ht:R.t V t=some c)(h:(if c then X V b else X V o)=r):bB R X V (.If t b o p)=r :=
 show iffE R X V t b o=r from(bO ht).trans h
theorem lT (h:R.e V e=some (d,k)):bB R X V (.Return (some e) p)=some (.ret d,V):=show dkV (R.e V e) (λd zw=>some (Fl.ret d,V))=_ from gV h
theorem s_for {body:List Stmt}{xs:List Str}{items:List D}{r:Option (Fl×Rho)}(hn:aR target=some xs)(hs:dE iter=true/\xs.all (stOk V)=true)(hi:R.i V (ttOf target) iter=some items)(h:gM X target body items V=r):bB R X V (.For target iter body [] p)=r :=
 show forE R X V target iter body=r from(bO hn).trans ((if_pos hs).trans ((bO hi).trans h))
theorem bM {st:Stmt}{V1:Rho}{ss:List Stmt}{r:Option (Fl×Rho)}(h:bB R (run R n) V st=some (.next,V1))(hr:run R n V1 ss=r):run R (n+1) V (st::ss)=r :=
 show(bB R (run R n) V st).bind (thn λV'=>run R n V' ss)=r from(bO h).trans hr
theorem i6 {st:Stmt}{V1:Rho}{ss:List Stmt}(h:bB R (run R n) V st=some (.ret d,V1)):run R (n+1) V (st::ss)=some (.ret d,V1) :=
 show(bB R (run R n) V st).bind (thn λV'=>run R n V' ss)=_ from(bO h).trans rfl
theorem cY {y:Str}:(V.put x d k).vars.lookup y=if y==x then some (d,k) else V.vars.lookup y:=bT _ _ _ _
end
end
section
open PySem.Builtin.Str
section
variable {R:Ev} {X:Rho->List Stmt->Option (Fl×Rho)} {body:List Stmt}
theorem o7 (Inv:Nat->Rho->Prop):∀(items:List D) (i:Nat) (V:Rho),Inv i V->(∀j V d,Inv (i+j) V->items[j]?=some d->∃V1 V2,jT V target d=some V1/\X V1 body=some (.next,V2)/\Inv (i+j+1) V2) →
  ∃V',gM X target body items V=some (.next,V')/\Inv (i+items.length) V'
 | [],i,V,h,_=>⟨V,rfl,h⟩
 | d::ds,i,V,h,step=>by
  obtain⟨V1,V2,h1,h2,h3⟩:=step 0 V d h rfl
  obtain⟨V',e,h4⟩:=o7 Inv ds (i+1) V2 h3 λj V d hi hd=>by
   have:=step (j+1) V d (by rw [show i+(j+1)=i+1+j by (simp +arith)]; exact hi) (by simpa using hd)
   rw [show i+(j+1)+1=i+1+j+1 by (simp +arith)] at this
   exact this
  refine⟨V',?_,by rw [List.length_cons,show i+(ds.length+1)=i+1+ds.length by (simp +arith)]; exact h4⟩
  exact(bO h1).trans ((bO h2).trans e)
theorem o0 (Inv:Nat->Rho->Prop)(A:D):∀(items:List D) (i:Nat) (V:Rho),Inv i V->(∀j V d,Inv (i+j) V->items[j]?=some d->∃V1 V2,jT V target d=some V1/\((X V1 body=some (.next,V2)/\Inv (i+j+1) V2)\/X V1 body=some (.ret A,V2))) →
  ∃V',(gM X target body items V=some (.next,V')/\Inv (i+items.length) V')\/gM X target body items V=some (.ret A,V')
 | [],i,V,h,_=>⟨V,.inl ⟨rfl,h⟩⟩
 | d::ds,i,V,h,step=>by
  obtain⟨V1,V2,h1,h2⟩:=step 0 V d h rfl
  rcases h2 with ⟨h2,h3⟩ | h2
  ·obtain⟨V',e⟩:=o0 Inv A ds (i+1) V2 h3 λj V d hi hd=>by
    have:=step (j+1) V d (by rw [show i+(j+1)=i+1+j by grind]; exact hi) (by simpa using hd)
    rw [show i+(j+1)+1=i+1+j+1 by grind] at this
    exact this
   refine⟨V',?_⟩
   have key:gM X target body (d::ds) V=gM X target body ds V2:=by
    exact(bO h1).trans ((bO h2).trans rfl)
   rw [key,List.length_cons,show i+(ds.length+1)=i+1+ds.length by grind]
   exact e
  ·exact⟨V2,.inr ((bO h1).trans ((bO h2).trans rfl))⟩
theorem rT {t:Expr}{b:List Stmt}{p:Pos}(Inv:Nat->Rho->Prop):∀(N i:Nat) (m:Nat) (V:Rho),Inv i V->N+3<=m->(∀j V,j < N->Inv (i+j) V->R.t V t=some true/\∃V2,(∀m,2<=m->run R m V b=some (.next,V2))/\Inv (i+j+1) V2)->(∀V,Inv (i+N) V->R.t V t=some false) →
  ∃V',bB R (run R m) V (.While t b [] p)=some (.next,V')/\Inv (i+N) V'
 | 0,i,m,V,h,hm,_,hf=>⟨V,by
   exact show oK R (run R m) V t b p=_ from(bO (hf V h)).trans rfl,h⟩
 | N+1,i,m,V,h,hm,step,hf=>by
  obtain⟨ht,V2,hb,h2⟩:=step 0 V (by (exact Nat.le_add_left _ _)) h
  obtain⟨m,rfl⟩:∃q,m=q+1:=⟨m - 1,by grind⟩
  obtain⟨V',e,h3⟩:=rT Inv N (i+1) m V2 h2 (by grind) (λj V hj hi=>by
   have:=step (j+1) V (by grind) (by rw [show i+(j+1)=i+1+j by (simp +arith)]; exact hi)
   rw [show i+(j+1)+1=i+1+j+1 by (simp +arith)] at this
   exact this) (λV hi=>hf V (by rw [show i+(N+1)=i+1+N by (simp +arith)]; exact hi))
  refine⟨V',?_,by rw [show i+(N+1)=i+1+N by (simp +arith)]; exact h3⟩
  refine(show oK R (run R (m+1)) V t b p=_ from(bO ht).trans (bO (hb (m+1) (by grind)))).trans ?_
  refine bM e ?_
  obtain⟨q,rfl⟩:∃q,m=q+1:=⟨m - 1,by grind⟩
  rfl
end
end
set_option backward.match.sparseCases false
section
open PySem.Builtin.Str
section
variable {R:Ev} {owns:List Str} {st:Stmt} {rest:List Stmt}
noncomputable def nG (st:Stmt):Bool:=(nameA st).isNone
theorem AE (ho:nS owns st=none):cB R owns (n+1) V (st::rest)=mB R (run R n) (cB R owns n) V st rest:=by
 show(match nS owns st with | some q=>ownB R (cB R owns n) V q.1 q.2.1 q.2.2.1 rest | none=>mB R (run R n) (cB R owns n) V st rest)=_
 rw [ho]
theorem uV (h:nG st=true):nS owns st=none :=
 (congrArg (λz:Option (Str×Pos×Expr×Pos)=>z.bind λq=>if owns.contains q.1=true then some q else none) (Option.isNone_iff_eq_none.mp h)).trans rfl
theorem tI (h:nG st=true):cB R owns (n+1) V (st::rest)=mB R (run R n) (cB R owns n) V st rest:=AE (uV h)
theorem eZ (hp:nG st=true)(h:bB R (run R n) V st=some (.next,V'))(hr:cB R owns n V' rest=some d):cB R owns (n+1) V (st::rest)=some d :=
 (tI hp).trans ((bO h).trans hr)
theorem iY (hp:nG st=true)(h:bB R (run R n) V st=some (.ret d,V')):cB R owns (n+1) V (st::rest)=some d :=
 (tI hp).trans ((bO h).trans rfl)
theorem dZ {v:Expr}{e:D}(ho:owns.contains x=false)(hx:stOk V x=true)(hv:fO v=true)(h:R.e V v=some (e,0))(hr:cB R owns n (V.put x e 0) rest=some d):cB R owns (n+1) V (.Assign [.Name x np] v p::rest)=some d :=
 (AE (st:=.Assign [.Name x np] v p) (show nS owns (.Assign [.Name x np] v p)=none from(if_neg (λz=>Bool.noConfusion (ho.symm.trans z)):(if owns.contains x=true then some (x,np,v,p) else none)=none))).trans ((bO (bY hx hv h)).trans hr)
theorem bd_own {v:Expr}(ho:owns.contains x=true)(hx:stOk V x=true)(hv:x6 V x np v=true)(h:sX R V.lvl0 v=some ds)(hpl:plainDs ds=true)(hr:cB R owns n (V.lvl0.put x (.list ds) 1) rest=some d):cB R owns (n+1) V (.Assign [.Name x np] v p::rest)=some d:=by
 show(match nS owns (.Assign [.Name x np] v p) with | some q=>ownB R (cB R owns n) V q.1 q.2.1 q.2.2.1 rest | none=>mB R (run R n) (cB R owns n) V (.Assign [.Name x np] v p) rest)=_
 rw [show nS owns (.Assign [.Name x np] v p)=some (x,np,v,p) from if_pos ho]
 exact(if_pos ⟨hx,hv⟩).trans ((bO h).trans ((if_pos hpl).trans hr))
end
theorem nE {β:Type}(f:Str×β->Bool)(x:Str)(q:β)(hq:f (x,q)=true):∀(l:List (Str×β)),l.all f=true->(putL x q l).all f=true
 | [],_=>by simp [putL,hq]
 | (y,r)::l,h=>by
  simp only [List.all_cons,Bool.and_eq_true] at h
  unfold putL
  cases hb:y==x with
  | true =>
   have:=beq_iff_eq.mp hb; subst this
   simp [hq]; simpa using h.2
  | false =>
   simp only [Bool.false_eq_true,if_false,List.all_cons,Bool.and_eq_true]
   exact⟨h.1,nE f x q hq l h.2⟩
theorem bJ {y:Str}(h:fQ V x=true)(hk:(y==x || k==0)=true):fQ (V.put y d k) x=true:=nE _ _ _ hk _ h
theorem xQ:fQ (V.lvl0.put x d k) x=true:=by
 refine nE _ _ _ (by simp) _ ?_
 show(V.vars.map λp=>(p.1,(p.2.1,0))).all _=true
 simp
theorem iQ (h:V.vars.lookup x=some (d,k)):V.lvl0.vars.lookup x=some (d,0):=by
 show(V.vars.map λp=>(p.1,(p.2.1,0))).lookup x=_
 rw [gY,h]; rfl
noncomputable def bP (V:Rho) (e:Expr):Option DK:=(aW e).bind λx =>
   if x==("_MAX_STRING_SIZE":Str) then (if V.sc.lookup ("_MAX_STRING_SIZE":Str)=some .globalImplicit then some (.int 40,0) else none)
   else if x==("_MOVE_COST":Str) then (if V.sc.lookup ("_MOVE_COST":Str)=some .globalImplicit then some (.int 2,0) else none)
   else if x==("_CASE_COST":Str) then (if V.sc.lookup ("_CASE_COST":Str)=some .globalImplicit then some (.int 1,0) else none) else none
noncomputable def subC (x y:Nat):Int:=if x==y then 0 else if (Txt.lower (S [x])).cps.toList==(Txt.lower (S [y])).cps.toList then 1 else 2
noncomputable def preN:List Nat->List Nat->Nat
 | x::xs,y::ys=>if x==y then preN xs ys+1 else 0
 | _,_=>0
theorem qU:∀(a b:List Nat),preN a b<=a.length/\preN a b<=b.length
 | [],_=>by simp [preN]
 | _::_,[]=>by simp [preN]
 | x::xs,y::ys=>by
  unfold preN
  have:=qU xs ys
  split <;> simp <;> omega
theorem kK:∀(a b:List Nat) (i:Nat),i < preN a b->∃(h1:i < a.length) (h2:i < b.length),a[i]=b[i]
 | [],_,i,h=>by simp [preN] at h
 | _::_,[],i,h=>by simp [preN] at h
 | x::xs,y::ys,i,h=>by
  unfold preN at h
  split at h
  ·rename_i hx
   cases i with
   | zero=>exact⟨by simp,by simp,by simpa using hx⟩
   | succ i =>
    obtain⟨h1,h2,h3⟩:=kK xs ys i (by grind)
    exact⟨by simpa using h1,by simpa using h2,by simpa using h3⟩
  ·grind
theorem kJ:∀(a b:List Nat),(h1:preN a b < a.length)->(h2:preN a b < b.length)->a[preN a b]≠b[preN a b]
 | [],_,h1,_=>by simp at h1
 | _::_,[],_,h2=>by simp at h2
 | x::xs,y::ys,h1,h2=>by
  unfold preN at h1 h2 ⊢
  by_cases hx:(x==y)=true
  ·simp only [hx,if_true] at h1 h2 ⊢
   have:=kJ xs ys (by simpa using h1) (by simpa using h2)
   simpa using this
  ·simp only [hx] at h1 h2 ⊢
   simpa using hx
end
section
open PySem.Builtin.Str
noncomputable def bigM:Int:=9223372036854775807
noncomputable def rM (a:List Nat) (bc:Nat) (s:List Int×Int×Int×Int) (j:Nat):List Int×Int×Int×Int :=
 let sub:=s.2.1+subC bc (a.getD j 0)
 let dist:=s.1.getD j 0
 let res:=min (min s.2.2.1 dist+2) sub
 (s.1.set j res,dist,res,if res < s.2.2.2 then res else s.2.2.2)
noncomputable def q6 (a:List Nat) (bc:Nat) (i:Nat) (row:List Int):List Int×Int×Int×Int:=(List.range a.length).foldl (rM a bc) (row,2*(i:Int),2*(i:Int),bigM)
noncomputable def wP (a:List Nat) (m:Int):List Nat->Nat->List Int->Int->Int
 | [],_,_,res=>res
 | bc::bs,i,row,_=>let s:=q6 a bc i row; if s.2.2.2 > m then m+1 else wP a m bs (i+1) s.1 s.2.2.1
noncomputable def levT (a b:List Nat) (m:Int):Int:=wP a m b 0 ((List.range a.length).map λ(k:Nat)=>2+(k:Int)*2) 0
noncomputable def levS (a b:List Nat) (m:Int):Int :=
 if a=[]\/b=[] then 2*((a.length:Int)+b.length)
 else if a.length > 40\/b.length > 40 then m+1
 else if b.length < a.length then (if ((a.length:Int) - b.length)*2 > m then m+1 else levT b a m)
 else (if ((b.length:Int) - a.length)*2 > m then m+1 else levT a b m)
noncomputable def sufN (a b:List Nat):Nat:=preN a.reverse b.reverse
noncomputable def levF (a b:List Nat) (m:Int):Int :=
 if a=b then 0 else
  let a_1:=a.drop (preN a b)
  let b_1:=b.drop (preN a b)
  levS (a_1.take (a_1.length - sufN a_1 b_1)) (b_1.take (b_1.length - sufN a_1 b_1)) m
section
variable {R:Ev} {X:Rho->List Stmt->Option (Fl×Rho)} {owns:List Str} {rest:List Stmt}
theorem uD {t:Expr}{b o:List Stmt}{r:Option (Fl×Rho)}(ht:R.t V t=some true)(h:X V b=r):bB R X V (.If t b o p)=r:=s_if ht h
theorem m9 {t:Expr}{b o:List Stmt}{r:Option (Fl×Rho)}(ht:R.t V t=some false)(h:X V o=r):bB R X V (.If t b o p)=r:=s_if ht h
theorem tH {t:Expr}{b:List Stmt}(Inv:Nat->Rho->Prop)(N:Nat)(h0:Inv 0 V)(hm:N+3<=n)(step:∀j V,j < N->Inv j V->R.t V t=some true/\∃V2,(∀m,2<=m->run R m V b=some (.next,V2))/\Inv (j+1) V2)(hf:∀V,Inv N V->R.t V t=some false)
  (hr:∀V',Inv N V'->cB R owns n V' rest=some d):cB R owns (n+1) V (.While t b [] p::rest)=some d:=by
 obtain⟨V',e,hi⟩:=rT (R:=R) (t:=t) (b:=b) (p:=p) Inv N 0 n V h0 hm (λj V hj hi=>by
  rw [Nat.zero_add] at hi ⊢
  exact step j V hj hi) (λV hi=>hf V (by rw [Nat.zero_add] at hi; exact hi))
 exact eZ rfl e (hr V' (by rw [Nat.zero_add] at hi; exact hi))
theorem stn {names:List (Str×NameKind)}(h:V.sc=names)(hx:(names.lookup x==some .local || names.lookup x==some .cell)=true):stOk V x=true:=by
 unfold stOk; rw [h]; exact hx
end
noncomputable def lvL:List Str:=["a","b","pre","post","row","result","bindex","bchar","distance","minimum","index","substitute","insert_delete"]
noncomputable def lvG:List Str:=["len","_MOVE_COST","_MAX_STRING_SIZE","range","list","min","_substitution_cost"]
structure LvM (names:List (Str×NameKind)) (A B:List Nat) (m:Int) (V:Rho):Prop where
 sc:V.sc=names
 a:V.vars.lookup ("a":Str)=some (.str (S A),0)
 b:V.vars.lookup ("b":Str)=some (.str (S B),0)
 c:V.vars.lookup ("max_cost":Str)=some (.int m,0)
 l:∀x,lvL.contains x=true->(names.lookup x==some .local || names.lookup x==some .cell)=true
 g:∀x,lvG.contains x=true->(names.lookup x==some .globalImplicit)=true
theorem LvM.put {names:List (Str×NameKind)}{A B:List Nat}{m:Int}(h:LvM names A B m V)(h1:(("a":Str)==x)=false)(h2:(("b":Str)==x)=false)(h3:(("max_cost":Str)==x)=false):LvM names A B m (V.put x d k) :=
 ⟨h.sc,by rw [cY,h1]; exact h.a,by rw [cY,h2]; exact h.b,by rw [cY,h3]; exact h.c,h.l,h.g⟩
theorem LvM.st {names:List (Str×NameKind)}{A B:List Nat}{m:Int}(h:LvM names A B m V)(hx:lvL.contains x=true):stOk V x=true:=stn h.sc (h.l x hx)
theorem LvM.gl {names:List (Str×NameKind)}{A B:List Nat}{m:Int}(h:LvM names A B m V)(hx:lvG.contains x=true):V.sc.lookup x=some .globalImplicit:=h.sc ▸ eq_of_beq (h.g x hx)
theorem lv0 {A B:List Nat}{m:Int}:LvM (fnOf "_levenshtein_distance").2.1 A B m ⟨(fnOf "_levenshtein_distance").2.1,[("a",(.str (S A),0)),("b",(.str (S B),0)),("max_cost",(.int m,0))]⟩ :=
 ⟨rfl,rfl,rfl,rfl,λx hx=>List.all_eq_true.mp (show lvL.all (λx=>(fnOf "_levenshtein_distance").2.1.lookup x==some .local || (fnOf "_levenshtein_distance").2.1.lookup x==some .cell)=true by decide +kernel) x (List.contains_iff_mem.mp hx),
  λx hx=>List.all_eq_true.mp (show lvG.all (λx=>(fnOf "_levenshtein_distance").2.1.lookup x==some .globalImplicit)=true by decide +kernel) x (List.contains_iff_mem.mp hx)⟩
theorem lF {f:Str->List D->Option D}{l:List Nat}{q r:Pos}(hk:bP V (.Name x p)=none)(hd:(x==("__debug__":Str))=false)(hsc:V.sc.lookup ("len":Str)=some .globalImplicit)(h:V.vars.lookup x=some (.str (S l),0))(hl:l.length<=100):(Ev.at ⟨f,bP⟩ (n+2)).e V (.Call (.Name "len" q) [.Name x p] [] r)=some (.int l.length,0) :=
 kI rfl hsc rfl (gD (aC hk hd h)) rfl (by
  show(if (S l).length<=cap then some (PyData.int (S l).length) else none)=_
  rw [jU,if_pos (by have:cap=100000:=rfl; (exact Nat.le_trans (by assumption) (by decide)))])
theorem lD {f:Str->List D->Option D}(hsc:V.sc.lookup ("_MOVE_COST":Str)=some .globalImplicit):(Ev.at ⟨f,bP⟩ (n+1)).e V (.Name "_MOVE_COST" p)=some (.int 2,0):=r_hk (by
 show(if V.sc.lookup ("_MOVE_COST":Str)=some .globalImplicit then some (PyData.int 2,0) else none)=_
 rw [if_pos hsc])
theorem e_max {f:Str->List D->Option D}(hsc:V.sc.lookup ("_MAX_STRING_SIZE":Str)=some .globalImplicit):(Ev.at ⟨f,bP⟩ (n+1)).e V (.Name "_MAX_STRING_SIZE" p)=some (.int 40,0):=r_hk (by
 show(if V.sc.lookup ("_MAX_STRING_SIZE":Str)=some .globalImplicit then some (PyData.int 40,0) else none)=_
 rw [if_pos hsc])
theorem rG {R:Ev}{p1 p2 q1 q2:Pos}{a b c:Expr}{x y z:Int}{kx ky kz:Nat}(h1:V.sc.lookup ("list":Str)=some .globalImplicit)(h2:V.sc.lookup ("range":Str)=some .globalImplicit)(hs:[a,b,c].all aQ=true)(ha:R.e V a=some (.int x,kx))(hb:R.e V b=some (.int y,ky))(hc:R.e V c=some (.int z,kz))(hr:fL x y z=true/\(bF x y z).length<=cap) :
  sX R V (.Call (.Name "list" p1) [.Call (.Name "range" p2) [a,b,c] [] q1] [] q2)=some ((bF x y z).map .int) :=
 show orE (rng3 R V "list" "range" [a,b,c]) id _=_ from oS ((if_pos ⟨rfl,rfl,h1,h2,hs⟩).trans ((gI ha).trans ((gI hb).trans ((gI hc).trans (if_pos hr)))))
theorem pC (n:Nat):bF 2 (2*((n:Int)+1)) 2=(List.range n).map λ(k:Nat)=>2+(k:Int)*2:=by
 unfold bF
 have:(Builtin.Range.rangeSize 2 (2*((n:Int)+1)) 2).toNat=n:=by
  unfold Builtin.Range.rangeSize
  rw [if_pos (by decide)]
  split <;> grind
 rw [this]
theorem pE (n:Nat):bF 0 (n:Int) 1=(List.range n).map λ(k:Nat)=>(k:Int):=by
 unfold bF
 have:(Builtin.Range.rangeSize 0 (n:Int) 1).toNat=n:=by
  unfold Builtin.Range.rangeSize
  rw [if_pos (by decide)]
  split <;> (first | (simp +arith; done) | grind)
 rw [this]
 refine List.map_congr_left λk zw=>?_
 (simp +arith)
noncomputable def Go (R:Ev) (n:Nat) (V:Rho) (ss:List Stmt) (P:Rho->Prop) (d:D):Prop:=∃V2,(run R n V ss=some (.next,V2)/\P V2)\/run R n V ss=some (.ret d,V2)
section
variable {R:Ev} {V1:Rho} {st:Stmt} {ss:List Stmt} {P:Rho->Prop}
theorem go_nil (h:P V):Go R (n+1) V [] P d:=⟨V,.inl ⟨rfl,h⟩⟩
theorem kU (h:bB R (run R n) V st=some (.next,V1))(hr:Go R n V1 ss P d):Go R (n+1) V (st::ss) P d:=by
 obtain⟨V2,h1 | h1⟩:=hr
 ·exact⟨V2,.inl ⟨bM h h1.1,h1.2⟩⟩
 ·exact⟨V2,.inr (bM h h1)⟩
theorem go_end (h:bB R (run R n) V st=some (.ret d,V1)):Go R (n+1) V (st::ss) P d:=⟨V1,.inr (i6 h)⟩
theorem go_for {body:List Stmt}{xs:List Str}{items:List D}(Inv:Nat->Rho->Prop)(hn:aR target=some xs)(hs:dE iter=true/\xs.all (stOk V)=true)(hi:R.i V (ttOf target) iter=some items)(h0:Inv 0 V)
  (step:∀j V e,Inv j V->items[j]?=some e->∃V1 V2,jT V target e=some V1/\run R n V1 body=some (.next,V2)/\Inv (j+1) V2) (hr:∀V',Inv items.length V'->Go R n V' ss P d):Go R (n+1) V (.For target iter body [] p::ss) P d:=by
 obtain⟨V',h,hI⟩:=o7 (X:=run R n) (target:=target) (body:=body) Inv items 0 V h0 λj V e hI he=>by
  rw [Nat.zero_add] at hI ⊢
  exact step j V e hI he
 rw [Nat.zero_add] at hI
 exact kU (s_for hn hs hi h) (hr V' hI)
end
theorem bd_for {R:Ev}{owns:List Str}{body rest:List Stmt}{xs:List Str}{items:List D}(Inv:Nat->Rho->Prop)(hn:aR target=some xs)(hs:dE iter=true/\xs.all (stOk V)=true)(hi:R.i V (ttOf target) iter=some items)(h0:Inv 0 V)
  (step:∀j V e,Inv j V->items[j]?=some e->∃V1,jT V target e=some V1/\Go R n V1 body (Inv (j+1)) d) (hr:∀V',Inv items.length V'->cB R owns n V' rest=some d):cB R owns (n+1) V (.For target iter body [] p::rest)=some d:=by
 obtain⟨V',h⟩:=o0 (X:=run R n) (target:=target) (body:=body) Inv d items 0 V h0 λj V e hI he=>by
  rw [Nat.zero_add] at hI ⊢
  obtain⟨V1,hb,V2,hg⟩:=step j V e hI he
  exact⟨V1,V2,hb,hg⟩
 rcases h with ⟨h,hI⟩ | h
 ·rw [Nat.zero_add] at hI
  exact eZ rfl (s_for hn hs hi h) (hr V' hI)
 ·exact iY rfl (s_for hn hs hi h)
theorem i_it {T:Tab}{q:Pos}{f:Str}{as:List Expr}{tt:Bool}{r:List D}(h:itE (Ev.at T n) V tt f as=some r):(Ev.at T (n+1)).i V tt (.Call (.Name f q) as [] p)=some r :=
 show orE (itE (Ev.at T n) V tt f as) id _=_ from oS h
theorem eV {T:Tab}{q:Pos}{a:Expr}{b:Int}(hsc:V.sc.lookup ("range":Str)=some .globalImplicit)(hs:aQ a=true)(h:(Ev.at T n).e V a=some (.int b,k))(hr:fL 0 b 1=true):(Ev.at T (n+1)).i V false (.Call (.Name "range" q) [a] [] p)=some ((bF 0 b 1).map .int) :=
 i_it ((if_pos ⟨hsc,by rw [List.all_cons,hs]; rfl⟩).trans (show dkI ((Ev.at T n).e V a) (λb zw=>if fL 0 b 1=true then some ((bF 0 b 1).map PyData.int) else none)=_ from(gI h).trans (if_pos hr)))
theorem o8 (h:n<=100):fL 0 (n:Int) 1=true:=by
 unfold fL
 simp only [Bool.and_eq_true,decide_eq_true_eq]
 grind
theorem oE {a:List Nat}{bc:Nat}:∀(l:List Nat) (s:List Int×Int×Int×Int),(l.foldl (rM a bc) s).1.length=s.1.length
 | [],_=>rfl
 | j::l,s=>by rw [List.foldl_cons,oE l]; simp [rM]
theorem lk_same:(V.put x d k).vars.lookup x=some (d,k):=by rw [cY]; simp
theorem aP {y:Str}{r:Option DK}(h:(y==x)=false)(hr:V.vars.lookup y=r):(V.put x d k).vars.lookup y=r:=by rw [cY,h]; exact hr
theorem qJ {l:List Nat}{b:Bool}(h:(l≠[])=(b=true)):dI (.str (S l))=b:=by
 show(((S l).length:Int) != 0)=b
 rw [jU]
 cases l with
 | nil=>cases b <;> simp at h ⊢
 | cons x l=>cases b <;> simp at h ⊢; grind
theorem eH {l:List Nat}(h:l.length<=100):pQ (.str (S l))=true:=decide_eq_true (by rw [jU]; have:cap=100000:=rfl; grind)
theorem tru_take {l:List Nat}{j:Nat}{b:Bool}(h:decide (j < l.length)=b):dI (.str (S (l.take (l.length - j))))=b:=by
 show(((S (l.take (l.length - j))).length:Int) != 0)=b
 rw [jU,<- h]
 by_cases hj:j < l.length
 ·rw [decide_eq_true hj]; simp; grind
 ·rw [decide_eq_false hj]; simp; omega
theorem i5 {l:List Nat}{j:Nat}(h:j<=l.length):Txt.slice (S l) none (if j=0 then none else some (-(j:Int)))=S (l.take (l.length - j)):=by
 split
 ·rename_i h0; subst h0; rw [w5]; simp
 ·exact uC (by grind) h
theorem kL {T:Tab}{q r:Pos}{c j:Nat}(hk:T.hook V (.BoolOp .Or [.Name x p,.Constant .none c q] r)=none)(hk1:T.hook V (.Name x p)=none)(hk2:T.hook V (.Constant .none c q)=none)(hd:(x==("__debug__":Str))=false)(h:V.vars.lookup x=some (.int (-(j:Int)),0)) :
  gJ (Ev.at T (n+2)) V (some (.BoolOp .Or [.Name x p,.Constant .none c q] r))=some (if j=0 then none else some (-(j:Int))):=by
 have e:=r_or2 (n:=n+1) (r:=some (if j=0 then (PyData.none,0) else (.int (-(j:Int)),0))) hk (aC hk1 hd h) rfl (by
  show(if ((-(j:Int)) != 0)=true then _ else _)=_
  by_cases h0:j=0
  ·subst h0
   rw [if_pos rfl]
   exact r_none hk2
  ·rw [if_neg h0,if_pos (by simp; omega)])
 by_cases h0:j=0
 ·rw [if_pos h0] at e ⊢; exact xP e
 ·rw [if_neg h0] at e ⊢; exact gC e
theorem sufN_le (a b:List Nat):sufN a b<=a.length/\sufN a b<=b.length:=by have:=qU a.reverse b.reverse; unfold sufN; simpa using this
theorem sA (n j:Nat):n - 1 - j=n - (j+1):=by rw [Nat.sub_sub,Nat.add_comm]
theorem m7 {j:Nat}(h:j < n):n - (j+1) < n:=Nat.sub_lt (Nat.lt_of_le_of_lt (Nat.zero_le _) h) (Nat.succ_pos _)
theorem wS (a b:List Nat)(j:Nat)(h:j < sufN a b):∃(h1:a.length - (j+1) < a.length) (h2:b.length - (j+1) < b.length),a[a.length - (j+1)]=b[b.length - (j+1)]:=by
 obtain⟨h1,h2,h3⟩:=kK a.reverse b.reverse j h
 simp only [List.length_reverse] at h1 h2
 refine⟨m7 h1,m7 h2,?_⟩
 rw [List.getElem_reverse,List.getElem_reverse] at h3
 simp only [sA] at h3
 exact h3
theorem wR (a b:List Nat)(h1:sufN a b < a.length)(h2:sufN a b < b.length):a[a.length - (sufN a b+1)]'(m7 h1)≠b[b.length - (sufN a b+1)]'(m7 h2):=by
 have h3:=kJ a.reverse b.reverse (by unfold sufN at h1; simpa using h1) (by unfold sufN at h2; simpa using h2)
 rw [List.getElem_reverse,List.getElem_reverse] at h3
 simp only [sA] at h3
 exact h3
theorem qL {f:Str->List D->Option D}{y:Str}{q r s:Pos}{l:List Nat}{j:Nat}(k1:bP V (.Name x p)=none)(k2:bP V (.Name y q)=none)(d1:(x==("__debug__":Str))=false)(d2:(y==("__debug__":Str))=false)(hx:V.vars.lookup x=some (.str (S l),0))(hy:V.vars.lookup y=some (.int (j:Int),0))(hj:j<=l.length)(hl:l.length<=100) :
  (Ev.at ⟨f,bP⟩ (n+3)).t V (.Subscript (.Name x p) (.Slice (some (.Name y q)) none none r) s)=some (decide (j < l.length)):=by
 have e:=eF (l:=l) (i:=j) hj
 exact(tU rfl (uG rfl (aC k1 d1 hx) (gC (aC k2 d2 hy)) rfl (by rw [jU]; (exact Nat.le_trans (by assumption) (by decide)))) (by rw [e]; exact eH (by simp; grind))).trans (by rw [e,qJ (b:=decide (j < l.length)) (by simp)])
theorem kA {f:Str->List D->Option D}{y:Str}{q q' r s u:Pos}{c:Nat}{l:List Nat}{j:Nat}(k0:bP V (.BoolOp .Or [.Name y q,.Constant .none c q'] r)=none)(k1:bP V (.Name x p)=none)(k2:bP V (.Name y q)=none)(k3:bP V (.Constant .none c q')=none)(d1:(x==("__debug__":Str))=false)(d2:(y==("__debug__":Str))=false)(hx:V.vars.lookup x=some (.str (S l),0))(hy:V.vars.lookup y=some (.int (-(j:Int)),0))(hj:j<=l.length)(hl:l.length<=100) :
  (Ev.at ⟨f,bP⟩ (n+4)).t V (.Subscript (.Name x p) (.Slice none (some (.BoolOp .Or [.Name y q,.Constant .none c q'] r)) none s) u)=some (decide (j < l.length)):=by
 have hcap:cap=100000:=rfl
 have e:=i5 (l:=l) (j:=j) hj
 exact(tU rfl (uG rfl (aC k1 d1 hx) rfl (kL k0 k2 k3 d2 hy) (by rw [jU]; grind)) (by rw [e]; exact eH (by simp; grind))).trans (by rw [e,tru_take (b:=decide (j < l.length)) rfl])
noncomputable def forB (s:Stmt):List Stmt:=if h:s.ctorIdx=9 then Stmt.For.elim (motive_2:=λzw=>List Stmt) s h λzw zw b zw zw=>b else []
noncomputable def lineB:List Stmt:=forB ((fnOf "_levenshtein_distance").1.getD 15 (.Break default))
noncomputable def cellB:List Stmt:=forB (lineB.getD 3 (.Break default))
noncomputable def Lk (V:Rho) (x:Str) (d:D):Prop:=V.vars.lookup x=some (d,0)
structure CellI (names:List (Str×NameKind)) (A B:List Nat) (m:Int) (bc:Nat) (st:List Int×Int×Int×Int) (V:Rho):Prop where
 L:LvM names A B m V
 o:fQ V "row"=true
 bc:Lk V "bchar" (.str (S [bc]))
 row:V.vars.lookup ("row":Str)=some (.list (st.1.map .int),1)
 di:Lk V "distance" (.int st.2.1)
 re:Lk V "result" (.int st.2.2.1)
 mn:Lk V "minimum" (.int st.2.2.2)
theorem z0 {f:Str->List D->Option D}(hf:∀x y:Nat,f "_substitution_cost" [.str (S [x]),.str (S [y])]=some (.int (subC x y))){names:List (Str×NameKind)}{A B:List Nat}{m:Int}{bc:Nat}{st:List Int×Int×Int×Int}{j:Nat}(hA:A.length<=40)(hj:j < A.length)(hl:st.1.length=A.length)(I:CellI names A B m bc st V) :
  ∃V2,run (Ev.at ⟨f,bP⟩ 12) (n+8) (V.put "index" (.int (j:Int)) 0) cellB=some (.next,V2)/\CellI names A B m bc (rM A bc st j) V2:=by
 obtain⟨rw',di,re,mn⟩:=st
 have hjl:j < rw'.length:=Nat.lt_of_lt_of_eq hj hl.symm
 have hgd:rw'.getD j 0=rw'[j]:=by simp [List.getD_eq_getElem?_getD,List.getElem?_eq_getElem hjl]
 have hga:A.getD j 0=A[j]:=by simp [List.getD_eq_getElem?_getD,List.getElem?_eq_getElem hj]
 have hrow':idxD (.list (rw'.map .int)) (j:Int)=some (.int rw'[j]):=by
  show(seqIndex? (j:Int) (rw'.map PyData.int).length).bind ((rw'.map PyData.int)[·]?)=_
  rw [List.length_map,cX hjl]
  simp [hjl]
 have hcell:rM A bc (rw',di,re,mn) j=(rw'.set j (min (min re rw'[j]+2) (di+subC bc A[j])),rw'[j],min (min re rw'[j]+2) (di+subC bc A[j]),if min (min re rw'[j]+2) (di+subC bc A[j]) < mn then min (min re rw'[j]+2) (di+subC bc A[j]) else mn):=by
  unfold rM; dsimp only; rw [hgd,hga]
 rw [hcell]
 have hch:idxD (.str (S A)) (j:Int)=some (.str (S [A[j]])):=d9 (Nat.le_trans hA (by decide)) (cX hj) hj
 have hfc:=hf bc A[j]
 have hset:∀v,(rw'.map PyData.int).set j (.int v)=(rw'.set j v).map .int:=λv=>(List.map_set ..).symm
 have hjl':0<=(j:Int)/\(j:Int) < (rw'.map PyData.int).length:=⟨Int.natCast_nonneg j,by rw [List.length_map]; exact Int.ofNat_lt.mpr hjl⟩
 generalize subC bc A[j]=sc at hfc ⊢
 generalize A[j]=aj at hch hfc
 generalize rw'[j]=dj at hrow' ⊢
 revert hrow'
 revert hfc
 revert hch
 revert dj
 revert aj
 revert sc
 refine id ?_
 intro sc aj dj hch hfc hrow'
 obtain⟨v1,hv1⟩:∃v,binD .Add (.int di) 0 (.int sc) 0=some (.int v,0)/\di+sc=v:=⟨_,rfl,rfl⟩
 obtain⟨v2,hv2⟩:∃v,binD .Add (.int (min re dj)) 0 (.int 2) 0=some (.int v,0)/\min re dj+2=v:=⟨_,rfl,rfl⟩
 obtain⟨v3,hv3⟩:∃v,btD "min" [.int v2,.int v1]=some (.int v)/\min v2 v1=v:=⟨_,rfl,rfl⟩
 rw [hv1.2,hv2.2,hv3.2]
 have hmd:btD "min" [.int re,.int dj]=some (.int (min re dj)):=rfl
 conv in cellB=>whnf
 have L:=I.L
 have L1:LvM names A B m (V.put "index" (.int (j:Int)) 0):=L.put rfl rfl rfl
 have L5:=(((L1.put (x:="substitute") (d:=.int v1) (k:=0) rfl rfl rfl).put (x:="distance") (d:=.int dj) (k:=0) rfl rfl rfl).put (x:="insert_delete") (d:=.int v2) (k:=0) rfl rfl rfl).put (x:="result") (d:=.int v3) (k:=0) rfl rfl rfl
 have o5:fQ (((((V.put "index" (.int (j:Int)) 0).put "substitute" (.int v1) 0).put "distance" (.int dj) 0).put "insert_delete" (.int v2) 0).put "result" (.int v3) 0) "row"=true:=bJ (bJ (bJ (bJ (bJ I.o rfl) rfl) rfl) rfl) rfl
 have last:∀{V5:Rho},LvM names A B m V5->fQ V5 "row"=true->Lk V5 "bchar" (.str (S [bc]))->V5.vars.lookup ("row":Str)=some (.list (rw'.map .int),1)->Lk V5 "distance" (.int dj)->Lk V5 "result" (.int v3)->Lk V5 "minimum" (.int mn)->Lk V5 "index" (.int (j:Int))->∃V2,run (Ev.at ⟨f,bP⟩ 12) (n+4) V5 (cellB.drop 4)=some (.next,V2)/\CellI names A B m bc (rw'.set j v3,dj,v3,if v3 < mn then v3 else mn) V2:=λ{V5} L o hb hr hd hre hm hi=>by
  conv in List.drop _ _=>whnf
  have L6:=L.put (x:="row") (d:=.list ((rw'.map .int).set j (.int v3))) (k:=1) rfl rfl rfl
  have o6:fQ (V5.put "row" (.list ((rw'.map .int).set j (.int v3))) 1) "row"=true:=bJ o rfl
  by_cases hlt:v3 < mn
  ·rw [if_pos hlt]
   exact⟨_,bM (oZ (z:=(j:Int)) (kz:=0) ⟨rfl,rfl,o,rfl,by decide⟩ (aC rfl rfl hre) hr (aC rfl rfl hi) hjl') (bM (uD (cU rfl (aC rfl rfl (aP rfl hre)) (aC rfl rfl (aP rfl hm)) (congrArg some (decide_eq_true hlt))) (bM (bY (L6.st rfl) rfl (aC rfl rfl (aP rfl hre))) rfl)) rfl),L6.put rfl rfl rfl,bJ o6 rfl,aP rfl (aP rfl hb),aP rfl (lk_same.trans (congrArg (λl=>some (PyData.list l,1)) (hset v3))),aP rfl (aP rfl hd),aP rfl (aP rfl hre),lk_same⟩
  ·rw [if_neg hlt]
   exact⟨_,bM (oZ (z:=(j:Int)) (kz:=0) ⟨rfl,rfl,o,rfl,by decide⟩ (aC rfl rfl hre) hr (aC rfl rfl hi) hjl') (bM (m9 (cU rfl (aC rfl rfl (aP rfl hre)) (aC rfl rfl (aP rfl hm)) (congrArg some (decide_eq_false hlt))) rfl) rfl),L6,o6,aP rfl hb,lk_same.trans (congrArg (λl=>some (PyData.list l,1)) (hset v3)),aP rfl hd,aP rfl hre,aP rfl hm⟩
 obtain⟨V2,h2,hC⟩:=last L5 o5 (aP rfl (aP rfl (aP rfl (aP rfl (aP rfl I.bc))))) (aP rfl (aP rfl (aP rfl (aP rfl (aP rfl I.row))))) (aP rfl (aP rfl lk_same)) lk_same (aP rfl (aP rfl (aP rfl (aP rfl (aP rfl I.mn))))) (aP rfl (aP rfl (aP rfl (aP rfl lk_same))))
 refine⟨V2,?_,hC⟩
 refine bM (bY (d:=.int v1) (L.st rfl) rfl (b6 rfl (aC rfl rfl (aP rfl I.di)) (r_fn rfl (L.gl rfl) rfl (dM (aC rfl rfl (aP rfl I.bc)) (jR rfl rfl (aC rfl rfl L1.a) (aC rfl rfl lk_same) hch)) rfl rfl rfl rfl hfc) hv1.1)) ?_
 refine bM (bY (d:=.int dj) (L.st rfl) rfl (jR rfl rfl (aC rfl rfl (aP rfl (aP rfl I.row))) (aC rfl rfl (aP rfl lk_same)) hrow')) ?_
 refine bM (bY (d:=.int v2) (L.st rfl) rfl (b6 rfl (kI rfl (L.gl rfl) rfl (dM (aC rfl rfl (aP rfl (aP rfl (aP rfl I.re)))) (aC rfl rfl lk_same)) rfl hmd) (lD (L.gl rfl)) hv2.1)) ?_
 exact bM (bY (d:=.int v3) (L.st rfl) rfl (kI rfl (L.gl rfl) rfl (dM (aC rfl rfl lk_same) (aC rfl rfl (aP rfl (aP rfl lk_same)))) rfl hv3.1)) h2
theorem o9 {i:Nat}(hd:(((List.range n).map λk:Nat=>(k:Int)).map PyData.int)[i]?=some d):i < n/\d=.int (i:Int):=by
 rw [List.map_map,List.getElem?_map,Option.map_eq_some_iff] at hd
 obtain⟨j,hj,rfl⟩:=hd
 obtain⟨h1,h2⟩:=List.getElem?_eq_some_iff.mp hj
 rw [List.length_range] at h1
 rw [List.getElem_range] at h2
 exact⟨h1,by rw [<- h2]; rfl⟩
theorem xE (n:Nat):(((List.range n).map λk:Nat=>(k:Int)).map PyData.int).length=n:=by
 rw [List.length_map,List.length_map,List.length_range]
theorem yK {f:Str->List D->Option D}(hf:∀x y:Nat,f "_substitution_cost" [.str (S [x]),.str (S [y])]=some (.int (subC x y))){names:List (Str×NameKind)}{A B:List Nat}{m:Int}{row:List Int}{P:Rho->Prop}{i:Nat}(hA:A.length<=40)(hB:B.length<=40)(hi:i < B.length)(hl:row.length=A.length)(L:LvM names A B m V)(o:fQ V "row"=true)(hrow:V.vars.lookup ("row":Str)=some (.list (row.map .int),1))
  (hd:(q6 A B[i] i row).2.2.2 > m->d=.int (m+1)) (hP:¬(q6 A B[i] i row).2.2.2 > m->∀V',LvM names A B m V'->fQ V' "row"=true->V'.vars.lookup ("row":Str)=some (.list ((q6 A B[i] i row).1.map .int),1)->Lk V' "result" (.int (q6 A B[i] i row).2.2.1)->P V') :
  Go (Ev.at ⟨f,bP⟩ 12) (n+16) (V.put "bindex" (.int (i:Int)) 0) lineB P d:=by
 conv in lineB=>whnf
 have L1:=L.put (x:="bindex") (d:=.int (i:Int)) (k:=0) rfl rfl rfl
 have hA1:A.length<=100:=Nat.le_trans hA (by decide)
 refine kU (bY (L1.st rfl) rfl (jR rfl rfl (aC rfl rfl L1.b) (aC rfl rfl lk_same) (d9 (Nat.le_trans hB (by decide)) (cX hi) hi))) ?_
 have L2:=L1.put (x:="bchar") (d:=.str (S [B[i]])) (k:=0) rfl rfl rfl
 have hmi:binD .Mult (.int (i:Int)) 0 (.int 2) 0=some (.int (2*(i:Int)),0):=by
  have hs:oW (i:Int)=true:=decide_eq_true (by omega)
  show(if oW (i:Int)=true then some (PyData.int ((i:Int)*2),0) else none)=_
  rw [if_pos hs,Int.mul_comm]
 refine kU (w9 (L2.st rfl) (L2.st rfl) rfl rfl (b6 rfl (aC rfl rfl (aP rfl lk_same)) (lD (L2.gl rfl)) hmi)) ?_
 refine kU (bY (L2.st rfl) rfl (bQ rfl)) ?_
 refine go_for (items:=((List.range A.length).map λ(k:Nat)=>(k:Int)).map .int) (λj V=>CellI names A B m B[i] ((List.range j).foldl (rM A B[i]) (row,2*(i:Int),2*(i:Int),bigM)) V) rfl ⟨rfl,?_⟩ ?_ ?_ (λj V e I he=>?_) λV' I=>?_
 ·exact(congrArg (· && true) (L1.st rfl)).trans rfl
 ·refine(eV ?_ rfl (lF rfl rfl ?_ (aP rfl (aP rfl (aP rfl L2.a))) hA1) (o8 hA1)).trans (by rw [pE])
  ·exact L2.gl rfl
  ·exact L2.gl rfl
 ·have L4:=((L2.put (x:="distance") (d:=.int (2*(i:Int))) (k:=0) rfl rfl rfl).put (x:="result") (d:=.int (2*(i:Int))) (k:=0) rfl rfl rfl).put (x:="minimum") (d:=.int bigM) (k:=0) rfl rfl rfl
  refine⟨L4,?_,?_,?_,?_,?_,?_⟩
  ·exact bJ (bJ (bJ (bJ (bJ o rfl) rfl) rfl) rfl) rfl
  ·exact aP rfl (aP rfl (aP rfl lk_same))
  ·exact aP rfl (aP rfl (aP rfl (aP rfl (aP rfl hrow))))
  ·exact aP rfl (aP rfl lk_same)
  ·exact aP rfl lk_same
  ·exact lk_same
 ·obtain⟨hj,rfl⟩:=o9 he
  obtain⟨V2,h2,hC⟩:=z0 (n:=n+4) hf hA hj ((oE ..).trans hl) I
  exact⟨_,V2,rfl,h2,by rw [List.range_succ,List.foldl_append]; exact hC⟩
 ·have I:CellI names A B m B[i] (q6 A B[i] i row) V':=by
   have h:=I
   rw [xE] at h
   exact h
  by_cases h:(q6 A B[i] i row).2.2.2 > m
  ·rw [hd h]
   exact go_end (uD (cU rfl (aC rfl rfl I.mn) (aC rfl rfl I.L.c) (congrArg some (decide_eq_true h))) (i6 (lT (k:=0) (b6 rfl (aC rfl rfl I.L.c) (bQ rfl) rfl))))
  ·exact kU (V1:=V') (m9 (cU rfl (aC rfl rfl I.mn) (aC rfl rfl I.L.c) (congrArg some (decide_eq_false h))) rfl) (go_nil (hP h V' I.L I.o I.row I.re))
structure LineI (names:List (Str×NameKind)) (A B:List Nat) (m T:Int) (i:Nat) (row:List Int) (res:Int) (V:Rho):Prop where
 L:LvM names A B m V
 o:fQ V "row"=true
 rw:V.vars.lookup ("row":Str)=some (.list (row.map .int),1)
 re:Lk V "result" (.int res)
 l:row.length=A.length
 t:wP A m (B.drop i) i row res=T
noncomputable def tabB (k:Nat):List Stmt:=(fnOf "_levenshtein_distance").1.drop k
theorem lev_tab {f:Str->List D->Option D}(hf:∀x y:Nat,f "_substitution_cost" [.str (S [x]),.str (S [y])]=some (.int (subC x y))){names:List (Str×NameKind)}{A B:List Nat}{m:Int}(hB:B.length<=40)(hl:A.length<=B.length)(hm:((B.length:Int) - A.length)*2<=m)(L:LvM names A B m V):cB (Ev.at ⟨f,bP⟩ 12) ["row"] (n+40) V (tabB 9)=some (.int (levS A B m)):=by
 conv in tabB _=>whnf
 have hA:A.length<=40:=Nat.le_trans hl hB
 have hA1:A.length<=100:=Nat.le_trans hA (by decide)
 have hB1:B.length<=100:=Nat.le_trans hB (by decide)
 have gl:V.sc.lookup ("len":Str)=some .globalImplicit:=L.gl rfl
 have gm:V.sc.lookup ("_MOVE_COST":Str)=some .globalImplicit:=L.gl rfl
 have gx:V.sc.lookup ("_MAX_STRING_SIZE":Str)=some .globalImplicit:=L.gl rfl
 have trA:dI (.str (S A))=decide (A≠[]):=qJ (by simp)
 have trB:dI (.str (S B))=decide (B≠[]):=qJ (by simp)
 have hsmall:∀{z:Int},binD .Mult (.int 2) 0 (.int z) 0=some (.int (2*z),0):=λ{z}=>rfl
 by_cases hnil:A=[]\/B=[]
 ·refine iY (V':=V) rfl (uD (?_:_=some true) (i6 (lT (k:=0) ((b6 rfl (lD gm) (b6 rfl (lF rfl rfl gl L.a hA1) (lF rfl rfl gl L.b hB1) rfl) hsmall).trans ?_))))
  ·refine(t_or (t_not (tU rfl (aC rfl rfl L.a) (eH hA1))) λzw=>t_or (t_not (tU rfl (aC rfl rfl L.b) (eH hB1))) λzw=>t_or0).trans ?_
   rw [trA,trB]
   rcases hnil with h | h <;> simp [h]
  ·unfold levS
   rw [if_pos hnil]
 ·refine eZ (V':=V) rfl (m9 (?_:_=some false) rfl) ?_
  ·refine(t_or (t_not (tU rfl (aC rfl rfl L.a) (eH hA1))) λzw=>t_or (t_not (tU rfl (aC rfl rfl L.b) (eH hB1))) λzw=>t_or0).trans ?_
   rw [trA,trB]
   have:=not_or.mp hnil
   simp [this.1,this.2]
  have cmpgt:∀{x:Nat},x<=40->cmpD .Gt (.int (x:Int)) (.int 40)=some false:=λ{x} h=>congrArg some (decide_eq_false (by grind))
  refine eZ (V':=V) rfl (m9 (t_or (cU rfl (lF rfl rfl gl L.a hA1) (e_max gx) (cmpgt hA)) λzw=>t_or (cU rfl (lF rfl rfl gl L.b hB1) (e_max gx) (cmpgt hB)) λzw=>t_or0) rfl) ?_
  refine eZ (V':=V) rfl (m9 (cU rfl (lF rfl rfl gl L.b hB1) (lF rfl rfl gl L.a hA1) (congrArg some (decide_eq_false (by grind)))) rfl) ?_
  have hgoal:levS A B m=levT A B m:=by
   unfold levS
   rw [if_neg hnil,if_neg (by grind),if_neg (by grind),if_neg (by grind)]
  rw [hgoal]
  have hmul:binD .Mult (.int ((B.length:Int) - A.length)) 0 (.int 2) 0=some (.int (((B.length:Int) - A.length)*2),0):=if_pos (decide_eq_true (by grind))
  refine eZ (V':=V) rfl (m9 (cU rfl (b6 rfl (b6 rfl (lF rfl rfl gl L.b hB1) (lF rfl rfl gl L.a hA1) rfl) (lD gm) hmul) (aC rfl rfl L.c) (congrArg some (decide_eq_false (by grind)))) rfl) ?_
  have hlen:(bF 2 (2*((A.length:Int)+1)) 2).length=A.length:=by rw [pC,List.length_map,List.length_range]
  refine bd_own (by decide) (L.st rfl) rfl (rG (L.gl rfl) (L.gl rfl) rfl (lD gm) (b6 rfl (lD gm) (b6 rfl (lF rfl rfl gl (iQ L.a) hA1) (bQ rfl) rfl) hsmall) (lD gm) ⟨by
   unfold fL
   simp only [Bool.and_eq_true,decide_eq_true_eq]
   grind,by rw [hlen]; exact Nat.le_trans hA (by decide)⟩) (jL _) ?_
  rw [pC]
  have L5:LvM names A B m (V.lvl0.put "row" (.list (((List.range A.length).map λ(k:Nat)=>2+(k:Int)*2).map .int)) 1) :=
   ⟨L.sc,aP rfl (iQ L.a),aP rfl (iQ L.b),aP rfl (iQ L.c),L.l,L.g⟩
  refine dZ (by decide) (L5.st rfl) rfl (bQ rfl) ?_
  refine bd_for (items:=((List.range B.length).map λ(k:Nat)=>(k:Int)).map .int) (λi V=>∃row res,LineI names A B m (levT A B m) i row res V) rfl ⟨rfl,(congrArg (· && true) (L5.st rfl)).trans rfl⟩ ?_
   ⟨_,0,L5.put rfl rfl rfl,bJ xQ rfl,aP rfl lk_same,lk_same,by rw [List.length_map,List.length_range],by rw [List.drop_zero]; rfl⟩ (λi V e hJ he=>?_) λV hJ=>?_
  ·refine(eV ?_ rfl (lF rfl rfl ?_ (aP rfl L5.b) hB1) (o8 hB1)).trans (by rw [pE])
   ·exact L5.gl rfl
   ·exact L5.gl rfl
  ·obtain⟨row,res,J⟩:=hJ
   obtain⟨hi,rfl⟩:=o9 he
   have ht:=J.t
   rw [List.drop_eq_getElem_cons hi] at ht
   refine⟨_,rfl,yK hf hA hB hi J.l J.L J.o J.rw (λh=>?_) λh V' L' o' r' e'=>⟨_,_,L',o',r',e',(oE ..).trans J.l,(if_neg h).symm.trans ht⟩⟩
   rw [<- (if_pos h).symm.trans ht]
  ·obtain⟨row,res,J⟩:=hJ
   have:levT A B m=res:=by
    rw [<- J.t,xE,List.drop_length]
    rfl
   rw [this]
   exact iY rfl (lT (aC rfl rfl J.re))
theorem lev_post {f:Str->List D->Option D}(hf:∀x y:Nat,f "_substitution_cost" [.str (S [x]),.str (S [y])]=some (.int (subC x y))){names:List (Str×NameKind)}{A1 B1:List Nat}{m:Int}(hB:B1.length<=40)(hl:A1.length<=B1.length)(hm:((B1.length:Int) - A1.length)*2<=m)(L2:LvM names A1 B1 m V) :
  cB (Ev.at ⟨f,bP⟩ 12) ["row"] (n+60) V (tabB 5)=some (.int (levS (A1.take (A1.length - sufN A1 B1)) (B1.take (B1.length - sufN A1 B1)) m)):=by
 conv in tabB _=>whnf
 have hB1:B1.length<=100:=Nat.le_trans hB (by decide)
 have hA1:A1.length<=100:=Nat.le_trans hl hB1
 refine dZ (by decide) (L2.st rfl) rfl (bQ rfl) ?_
 have hsl:=sufN_le A1 B1
 refine tH (λj V=>LvM names A1 B1 m V/\V.vars.lookup ("post":Str)=some (.int (-(j:Int)),0)) (sufN A1 B1) ⟨L2.put rfl rfl rfl,lk_same⟩ (by grind) ?_ ?_ ?_
 ·intro j V hj hJ0
  obtain⟨L,hp⟩:=hJ0
  obtain⟨h1,h2,h3⟩:=wS A1 B1 j hj
  have hp1:∀{k:Nat} {q q' r:Pos} {c:Nat},(Ev.at ⟨f,bP⟩ (k+2)).e V (.BinOp (.Name "post" q) .Sub (.Constant (.int 1) c q') r)=some (.int (-((j+1:Nat):Int)),0):=b6 rfl (aC rfl rfl hp) (bQ rfl) (by
   show some (PyData.int (-(j:Int) - 1),0)=_
   congr 3; (simp +arith))
  refine⟨eE (b:=true) (c:=true) ?_ λzw=>eE (b:=true) (c:=true) ?_ λzw=>eE (b:=true) (c:=true) ?_ λzw=>wQ,V.put "post" (.int (-((j+1:Nat):Int))) 0,λq hq=>?_,L.put rfl rfl rfl,lk_same⟩
  ·exact(kA rfl rfl rfl rfl rfl rfl L.a hp (by grind) hA1).trans (congrArg some (decide_eq_true (by grind)))
  ·exact(kA rfl rfl rfl rfl rfl rfl L.b hp (by grind) hB1).trans (congrArg some (decide_eq_true (by grind)))
  ·refine cU rfl (jR rfl rfl (aC rfl rfl L.a) hp1 (d9 (by (exact Nat.le_trans (by assumption) (by decide))) (gA (by (exact Nat.le_add_left _ _)) (by grind)) h1)) (jR rfl rfl (aC rfl rfl L.b) hp1 (d9 (by (exact Nat.le_trans (by assumption) (by decide))) (gA (by (exact Nat.le_add_left _ _)) (by grind)) h2)) ?_
   show some ((S [A1[A1.length - (j+1)]]).cps.toList==(S [B1[B1.length - (j+1)]]).cps.toList)=_
   rw [h3]; simp
  ·obtain⟨q,rfl⟩:∃q',q=q'+2:=⟨q - 2,by grind⟩
   exact bM (s_aug (L.st rfl) hp (bQ rfl) (by
    show some (PyData.int (-(j:Int) - 1))=_
    congr 2; (simp +arith))) rfl
 ·intro V hJ0
  obtain⟨L,hp⟩:=hJ0
  have hp1:∀{k:Nat} {q q' r:Pos} {c:Nat},(Ev.at ⟨f,bP⟩ (k+2)).e V (.BinOp (.Name "post" q) .Sub (.Constant (.int 1) c q') r)=some (.int (-((sufN A1 B1+1:Nat):Int)),0):=b6 rfl (aC rfl rfl hp) (bQ rfl) (by
   show some (PyData.int (-(sufN A1 B1:Int) - 1),0)=_
   congr 3; (simp +arith))
  by_cases g1:sufN A1 B1 < A1.length
  ·by_cases g2:sufN A1 B1 < B1.length
   ·refine eE (b:=true) (c:=false) ?_ λzw=>eE (b:=true) (c:=false) ?_ λzw=>eE (b:=false) (c:=true) ?_ λz=>by cases z
    ·exact(kA rfl rfl rfl rfl rfl rfl L.a hp hsl.1 hA1).trans (congrArg some (decide_eq_true g1))
    ·exact(kA rfl rfl rfl rfl rfl rfl L.b hp hsl.2 hB1).trans (congrArg some (decide_eq_true g2))
    ·refine cU rfl (jR rfl rfl (aC rfl rfl L.a) hp1 (d9 (by (exact Nat.le_trans (by assumption) (by decide))) (gA (by (exact Nat.le_add_left _ _)) (by assumption)) (by omega))) (jR rfl rfl (aC rfl rfl L.b) hp1 (d9 (by (exact Nat.le_trans (by assumption) (by decide))) (gA (by (exact Nat.le_add_left _ _)) (by assumption)) (by omega))) ?_
     show some ((S [A1[A1.length - (sufN A1 B1+1)]]).cps.toList==(S [B1[B1.length - (sufN A1 B1+1)]]).cps.toList)=_
     rw [fD,fD]
     have:=wR A1 B1 g1 g2
     simpa using this
   ·refine eE (b:=true) (c:=false) ?_ λzw=>eE (b:=false) (c:=true) ?_ λz=>by cases z
    ·exact(kA rfl rfl rfl rfl rfl rfl L.a hp hsl.1 hA1).trans (congrArg some (decide_eq_true g1))
    ·exact(kA rfl rfl rfl rfl rfl rfl L.b hp hsl.2 hB1).trans (congrArg some (decide_eq_false g2))
  ·refine eE (b:=false) (c:=true) ?_ λz=>by cases z
   exact(kA rfl rfl rfl rfl rfl rfl L.a hp hsl.1 hA1).trans (congrArg some (decide_eq_false g1))
 ·intro V hJ0
  obtain⟨L,hp⟩:=hJ0
  have eA:=i5 (l:=A1) (j:=sufN A1 B1) (by grind)
  have eB:=i5 (l:=B1) (j:=sufN A1 B1) (by grind)
  refine dZ (by decide) (L.st rfl) rfl ((uG rfl (aC rfl rfl L.a) rfl (kL rfl rfl rfl rfl hp) (by rw [jU]; (exact Nat.le_trans (by assumption) (by decide)))).trans (by rw [eA])) ?_
  refine dZ (by decide) (L.st rfl) rfl ((uG rfl (aC rfl rfl (aP rfl L.b)) rfl (kL rfl rfl rfl rfl (aP rfl hp)) (by rw [jU]; (exact Nat.le_trans (by assumption) (by decide)))).trans (by rw [eB])) ?_
  exact lev_tab hf (by rw [List.length_take]; exact Nat.le_trans (Nat.min_le_right _ _) hB) (by rw [List.length_take,List.length_take]; omega) (by rw [List.length_take,List.length_take]; omega) ⟨L.sc,aP rfl lk_same,lk_same,aP rfl (aP rfl L.c),L.l,L.g⟩
theorem lev_eval (f:Str->List D->Option D)(hf:∀x y:Nat,f "_substitution_cost" [.str (S [x]),.str (S [y])]=some (.int (subC x y)))(A B:List Nat)(m:Int)(hB4:B.length<=40)(hl:A.length<=B.length)(hm:((B.length:Int) - A.length)*2<=m) :
  cB (Ev.at ⟨f,bP⟩ 12) ["row"] 400 ⟨(fnOf "_levenshtein_distance").2.1,[("a",(.str (S A),0)),("b",(.str (S B),0)),("max_cost",(.int m,0))]⟩ (fnOf "_levenshtein_distance").1=some (.int (levF A B m)):=by
 have hB:B.length<=100:=Nat.le_trans hB4 (by decide)
 have hA:A.length<=100:=Nat.le_trans hl hB
 have L0:=lv0 (A:=A) (B:=B) (m:=m)
 generalize (fnOf "_levenshtein_distance").2.1=names at L0 ⊢
 revert L0
 revert names
 refine id ?_
 intro names L0
 conv =>
  lhs
  arg 5
  whnf
 by_cases hAB:A=B
 ·refine iY rfl (uD (cU rfl (aC rfl rfl rfl) (aC rfl rfl rfl) ?_) (i6 (lT (k:=0) ?_)))
  ·show some ((S A).cps.toList==(S B).cps.toList)=_
   rw [fD,fD,hAB]; simp
  ·unfold levF; rw [if_pos hAB]; rfl
 ·refine eZ (V':=_) rfl (m9 (cU rfl (aC rfl rfl rfl) (aC rfl rfl rfl) ?_) rfl) ?_
  ·show some ((S A).cps.toList==(S B).cps.toList)=_
   rw [fD,fD]; simpa using hAB
  refine dZ (by decide) (L0.st rfl) rfl (bQ rfl) ?_
  have hpl:=qU A B
  refine tH (λj V=>LvM names A B m V/\V.vars.lookup ("pre":Str)=some (.int (j:Int),0)) (preN A B) ⟨L0.put rfl rfl rfl,rfl⟩ (by grind) ?_ ?_ ?_
  ·intro j V hj hJ0
   obtain⟨L,hp⟩:=hJ0
   obtain⟨h1,h2,h3⟩:=kK A B j hj
   refine⟨eE (b:=true) (c:=true) ?_ λzw=>eE (b:=true) (c:=true) ?_ λzw=>eE (b:=true) (c:=true) ?_ λzw=>wQ,V.put "pre" (.int ((j:Int)+1)) 0,λq hq=>?_,L.put rfl rfl rfl,lk_same⟩
   ·exact(qL rfl rfl rfl rfl L.a hp (Nat.le_of_lt h1) hA).trans (congrArg some (decide_eq_true h1))
   ·exact(qL rfl rfl rfl rfl L.b hp (Nat.le_of_lt h2) hB).trans (congrArg some (decide_eq_true h2))
   ·refine cU rfl (jR rfl rfl (aC rfl rfl L.a) (aC rfl rfl hp) (d9 (by (exact Nat.le_trans (by assumption) (by decide))) (cX h1) h1)) (jR rfl rfl (aC rfl rfl L.b) (aC rfl rfl hp) (d9 (by (exact Nat.le_trans (by assumption) (by decide))) (cX h2) h2)) ?_
    show some ((S [A[j]]).cps.toList==(S [B[j]]).cps.toList)=_
    rw [h3]; simp
   ·obtain⟨q,rfl⟩:∃q',q=q'+2:=⟨q - 2,by grind⟩
    exact bM (s_aug (L.st rfl) hp (bQ rfl) rfl) rfl
  ·intro V hJ0
   obtain⟨L,hp⟩:=hJ0
   have eA:=eF (l:=A) (i:=preN A B) (by grind)
   have eB:=eF (l:=B) (i:=preN A B) (by grind)
   by_cases g1:preN A B < A.length
   ·by_cases g2:preN A B < B.length
    ·refine eE (b:=true) (c:=false) ?_ λzw=>eE (b:=true) (c:=false) ?_ λzw=>eE (b:=false) (c:=true) ?_ λz=>by cases z
     ·exact(qL rfl rfl rfl rfl L.a hp hpl.1 hA).trans (congrArg some (decide_eq_true g1))
     ·exact(qL rfl rfl rfl rfl L.b hp hpl.2 hB).trans (congrArg some (decide_eq_true g2))
     ·refine cU rfl (jR rfl rfl (aC rfl rfl L.a) (aC rfl rfl hp) (d9 (by (exact Nat.le_trans (by assumption) (by decide))) (cX g1) g1)) (jR rfl rfl (aC rfl rfl L.b) (aC rfl rfl hp) (d9 (by (exact Nat.le_trans (by assumption) (by decide))) (cX g2) g2)) ?_
      show some ((S [A[preN A B]]).cps.toList==(S [B[preN A B]]).cps.toList)=_
      rw [fD,fD]
      have:=kJ A B g1 g2
      simpa using this
    ·refine eE (b:=true) (c:=false) ?_ λzw=>eE (b:=false) (c:=true) ?_ λz=>by cases z
     ·exact(qL rfl rfl rfl rfl L.a hp hpl.1 hA).trans (congrArg some (decide_eq_true g1))
     ·exact(qL rfl rfl rfl rfl L.b hp hpl.2 hB).trans (congrArg some (decide_eq_false g2))
   ·refine eE (b:=false) (c:=true) ?_ λz=>by cases z
    exact(qL rfl rfl rfl rfl L.a hp hpl.1 hA).trans (congrArg some (decide_eq_false g1))
  ·intro V hJ0
   obtain⟨L,hp⟩:=hJ0
   have eA:=eF (l:=A) (i:=preN A B) (by grind)
   have eB:=eF (l:=B) (i:=preN A B) (by grind)
   refine dZ (by decide) (L.st rfl) rfl ((uG rfl (aC rfl rfl L.a) (gC (aC rfl rfl hp)) rfl (by rw [jU]; (exact Nat.le_trans (by assumption) (by decide)))).trans (by rw [eA])) ?_
   refine dZ (by decide) (L.st rfl) rfl ((uG rfl (aC rfl rfl (aP rfl L.b)) (gC (aC rfl rfl (aP rfl hp))) rfl (by rw [jU]; (exact Nat.le_trans (by assumption) (by decide)))).trans (by rw [eB])) ?_
   have hgoal:levF A B m=levS ((A.drop (preN A B)).take ((A.drop (preN A B)).length - sufN (A.drop (preN A B)) (B.drop (preN A B)))) ((B.drop (preN A B)).take ((B.drop (preN A B)).length - sufN (A.drop (preN A B)) (B.drop (preN A B)))) m:=by
    unfold levF; rw [if_neg hAB]
   rw [hgoal]
   exact lev_post hf (by rw [List.length_drop]; exact Nat.le_trans (Nat.sub_le _ _) hB4) (by rw [List.length_drop,List.length_drop]; omega) (by rw [List.length_drop,List.length_drop]; grind) ⟨L.sc,aP rfl lk_same,lk_same,aP rfl (aP rfl L.c),L.l,L.g⟩
end
set_option backward.match.sparseCases true
section
open PySem.Builtin.Str
theorem nK (x:Nat):(Txt.lower (S [x])).length<=cap:=by
 have h:(Txt.lower (S [x])).length<=3*(S [x]).length:=len_lower (S [x])
 have hc:cap=100000:=rfl
 have e:(S [x]).length=1:=rfl
 rw [e] at h
 (exact Nat.le_trans (by assumption) (by decide))
theorem nD {T:Tab}{o:Expr}{ap:Pos}(hk:T.hook V (.Call (.Attribute o "lower" ap) [] [] p)=none)(hs:eS o=true)(hl:(ap.endLine==p.line)=true)(h:(Ev.at T n).e V o=some (.str x,k))(hx:(Txt.lower x).length<=cap):(Ev.at T (n+1)).e V (.Call (.Attribute o "lower" ap) [] [] p)=some (.str (Txt.lower x),0) :=
 fW hk (show(if eS o=true/\(ap.endLine==p.line)=true then methE (Ev.at T n) V o "lower" [] else none)=_ from(if_pos ⟨hs,hl⟩).trans (show dkS ((Ev.at T n).e V o) (λx zw=>if (Txt.lower x).length<=cap then some (PyData.str (Txt.lower x),0) else none)=_ from(gS h).trans (if_pos hx)))
theorem sub_eval (f:Str->List D->Option D)(x y:Nat) :
  cB (Ev.at ⟨f,bP⟩ 12) [] 20 ⟨(fnOf "_substitution_cost").2.1,[("ch_a",(.str (S [x]),0)),("ch_b",(.str (S [y]),0))]⟩ (fnOf "_substitution_cost").1=some (.int (subC x y)):=by
 have gm:(fnOf "_substitution_cost").2.1.lookup ("_MOVE_COST":Str)=some .globalImplicit:=by rfl
 have gc:(fnOf "_substitution_cost").2.1.lookup ("_CASE_COST":Str)=some .globalImplicit:=by rfl
 generalize (fnOf "_substitution_cost").2.1=names at gm gc ⊢
 conv =>
  lhs
  arg 5
  whnf
 unfold subC
 by_cases h:x=y
 ·rw [if_pos (by simpa using h)]
  refine iY rfl (uD (cU rfl (aC rfl rfl rfl) (aC rfl rfl rfl) ?_) (i6 (lT (bQ rfl))))
  show some ((S [x]).cps.toList==(S [y]).cps.toList)=_
  rw [fD,fD,h]; simp
 ·rw [if_neg (by simpa using h)]
  refine eZ rfl (m9 (cU rfl (aC rfl rfl rfl) (aC rfl rfl rfl) ?_) rfl) ?_
  ·show some ((S [x]).cps.toList==(S [y]).cps.toList)=_
   rw [fD,fD]; simpa using h
  by_cases h2:((Txt.lower (S [x])).cps.toList==(Txt.lower (S [y])).cps.toList)=true
  ·rw [if_pos h2]
   refine iY rfl (uD (cU rfl (nD rfl rfl rfl (aC rfl rfl rfl) (nK x)) (nD rfl rfl rfl (aC rfl rfl rfl) (nK y)) ?_) (i6 (lT (k:=0) (r_hk ?_))))
   ·show some ((Txt.lower (S [x])).cps.toList==(Txt.lower (S [y])).cps.toList)=_
    rw [h2]
   ·show(if names.lookup ("_CASE_COST":Str)=some .globalImplicit then some (PyData.int 1,0) else none)=_
    rw [if_pos gc]
  ·rw [if_neg h2]
   refine eZ rfl (m9 (cU rfl (nD rfl rfl rfl (aC rfl rfl rfl) (nK x)) (nD rfl rfl rfl (aC rfl rfl rfl) (nK y)) ?_) rfl) ?_
   ·show some ((Txt.lower (S [x])).cps.toList==(Txt.lower (S [y])).cps.toList)=_
    rw [Bool.eq_false_iff.mpr h2]
   refine iY rfl (lT (k:=0) (r_hk ?_))
   show(if names.lookup ("_MOVE_COST":Str)=some .globalImplicit then some (PyData.int 2,0) else none)=_
   rw [if_pos gm]
end
section
open PySem.Builtin.Str
section
theorem lB {i:Int}{t:Tok}(hs:V.sc.lookup x=some .globalImplicit)(hv:nsIn g.K mainGlobals x=some (some (.int i t)))(hd:(x==("__debug__":Str))=false):EvS g n V (.Name x p) (.int i) k :=
 λO M env A s E u rm aO aM eo=>bG u eo hs hv hd ⟨aD s,.int⟩
theorem qD (hg:g.K=K1 P)(V:Rho)(e:Expr)(d:D)(k:Nat)(h:bP V e=some (d,k)):EvS g n V e d k:=by
 exact bd h λx hx h=>uS (P:=λe=>EvS g n V e d k) hx λp=>eM (P:=λx=>EvS g n V (.Name x p) d k) h (λh=>(gd h).elim λhs h=>sm (P:=λr=>EvS g n V (.Name _ p) r.1 r.2) h (lB hs (by rw [hg]; rfl) (by decide))) λh =>
  eM (P:=λx=>EvS g n V (.Name x p) d k) h (λh=>(gd h).elim λhs h=>sm (P:=λr=>EvS g n V (.Name _ p) r.1 r.2) h (lB hs (by rw [hg]; rfl) (by decide))) λh =>
  eM (P:=λx=>EvS g n V (.Name x p) d k) h (λh=>(gd h).elim λhs h=>sm (P:=λr=>EvS g n V (.Name _ p) r.1 r.2) h (lB hs (by rw [hg]; rfl) (by decide))) λh=>no h
theorem sub_call (hg:g.K=K1 P)(hn:1<=n)(N:Names g)(hcl:Callee g "list" (.type "list"))(x y:Nat):aZ g (n+1) (.ref 157) [.str (S [x]),.str (S [y])] 0 (.int (subC x y)) 0:=by
 have tok:TabOk ⟨λzw zw=>none,bP⟩ g n:=⟨λzw zw zw h=>(by cases h),qD hg⟩
 have hK:(K1 P).lookup 157=some _:=rfl
 rw [<- hg] at hK
 refine gG (params:=["ch_a","ch_b"]) (body:=(fnOf "_substitution_cost").1) hK ⟨rfl,rfl,rfl,rfl,rfl,rfl⟩ rfl (bL g.X (by rw [hg]; rfl)) (jJ λzw zw=>rfl) rfl ?_ ?_ rfl (d6 (owns:=[]) N hcl (dH hn N tok 12) 20 (sub_eval _ x y)).r
 ·rfl
 ·rfl
noncomputable def subT (ds:List D):Option D:=one2 (λzw=>none) (λa b=>onS (λa=>onS (λb=>l1 (λx=>l1 (λy=>some (.int (subC x y))) b.cps.toList) a.cps.toList) b) a) ds
theorem S_of {a:Str}{l:List Nat}(h:a.cps.toList=l):a=S l:=by
 obtain⟨c⟩:=a
 obtain⟨l'⟩:=c
 cases h
 rfl
noncomputable def subF (f:Str) (ds:List D):Option D:=if f==("_substitution_cost":Str) then subT ds else none
theorem subF_ok (hg:g.K=K1 P)(hn:1<=n)(N:Names g)(hcl:Callee g "list" (.type "list")):TabOk ⟨subF,bP⟩ g (n+1):=by
 refine⟨λf ds d h0=>?_,qD hg⟩
 have hK:(K1 P).lookup 157=some _:=rfl
 rw [<- hg] at hK
 exact eM (P:=λf=>∃v,Callee g f v/\aZ g (n+1) v ds 0 d 0) h0 (λh=>kN (P:=λds=>∃v,Callee g _ v/\aZ g (n+1) v ds 0 d 0) h (λzw h=>no h) λa b h=>jM (P:=λa=>∃v,Callee g _ v/\aZ g (n+1) v [a,b] 0 d 0) h λa h=>jM (P:=λb=>∃v,Callee g _ v/\aZ g (n+1) v [.str a,b] 0 d 0) h λb h =>
  l1E (P:=λl=>a.cps.toList=l->∃v,Callee g _ v/\aZ g (n+1) v [.str a,.str b] 0 d 0) h (λx h hx=>l1E (P:=λl=>b.cps.toList=l->∃v,Callee g _ v/\aZ g (n+1) v [.str a,.str b] 0 d 0) h (λy h hy=>sm (P:=λd=>∃v,Callee g _ v/\aZ g (n+1) v [.str a,.str b] 0 d 0) h ⟨.ref 157,.fn (by rw [hg]; rfl) hK,by
   rw [S_of hx,S_of hy]
   exact sub_call hg hn N hcl x y⟩) rfl) rfl) λh=>no h
theorem lev_call (hg:g.K=K1 P)(hn:1<=n)(N:Names g)(hcl:Callee g "list" (.type "list"))(A B:List Nat)(m:Int)(hA:B.length<=40)(hB:A.length<=B.length)(hm:((B.length:Int) - A.length)*2<=m):aZ g (n+2) (.ref 164) [.str (S A),.str (S B),.int m] 0 (.int (levF A B m)) 0:=by
 have hK:(K1 P).lookup 164=some _:=rfl
 rw [<- hg] at hK
 refine gG (params:=["a","b","max_cost"]) (body:=(fnOf "_levenshtein_distance").1) hK ⟨rfl,rfl,rfl,rfl,rfl,rfl⟩ rfl (bL g.X (by rw [hg]; rfl)) (m0 λzw zw zw=>rfl) rfl ?_ ?_ rfl (d6 (owns:=["row"]) N hcl (dH (by (exact Nat.le_add_left _ _)) N (subF_ok hg hn N hcl) 12) 400 (lev_eval _ (λx y=>rfl) A B m hA hB hm)).r
 ·rfl
 ·rfl
end
end
noncomputable def T1:Topo:=⟨137,40,41,42,43,73,36,80,87,92,99,106,120,127⟩
theorem topo1 (P:Params):TopoOk (K1 P) T1 where
 c:=⟨λzw=>by kernel_rfl,by kernel_rfl,by kernel_rfl,by kernel_rfl,by kernel_rfl,by kernel_rfl⟩
 n:=⟨λzw=>by kernel_rfl,by kernel_rfl,by kernel_rfl,by kernel_rfl,by kernel_rfl,by kernel_rfl⟩
 dict:=by kernel_rfl
 s0:=⟨by kernel_rfl,by kernel_rfl,by kernel_rfl,by kernel_rfl,by kernel_rfl,by kernel_rfl⟩
 s1:=⟨by kernel_rfl,by kernel_rfl,by kernel_rfl,by kernel_rfl,by kernel_rfl,by kernel_rfl⟩
 s2:=⟨by kernel_rfl,by kernel_rfl,by kernel_rfl,by kernel_rfl,by kernel_rfl,by kernel_rfl⟩
 a1:=⟨by kernel_rfl,by kernel_rfl⟩
 a2:=⟨by kernel_rfl,by kernel_rfl⟩
 a3:=⟨by kernel_rfl,by kernel_rfl⟩
 a4:=⟨by kernel_rfl,by kernel_rfl⟩
 minit:=by kernel_rfl
 tinit:=by kernel_rfl
 mninit:=by kernel_rfl
 tninit:=by kernel_rfl
 mgni:=⟨by kernel_rfl,by kernel_rfl,by kernel_rfl⟩
 madd:=⟨by kernel_rfl,by kernel_rfl,by kernel_rfl⟩
 mprep:=⟨by kernel_rfl,by kernel_rfl,by kernel_rfl⟩
 mready:=⟨by kernel_rfl,by kernel_rfl,by kernel_rfl⟩
 mactive:=⟨by kernel_rfl,by kernel_rfl,by kernel_rfl⟩
 mdone:=⟨by kernel_rfl,by kernel_rfl,by kernel_rfl⟩
 mcyc:=⟨by kernel_rfl,by kernel_rfl,by kernel_rfl⟩
theorem fnm1 {f:Addr}{c:Str}{params:List Str}(h:∃cc dd fd sl,(K1 P).lookup f=some ⟨cc,dd,.func fd,sl⟩/\FnData fd (mOf c x).1/\fd.closure=[]/\mR (K1 P) fd.code fd.qualname=true/\fd.scope.names=(mOf c x).2.1/\(∀vs:List Value,vs.length=params.length->bindArgs fd ⟨vs,[]⟩=pure (params.zip vs)))(hn:c9 (mOf c x).2.1 []=true):∃code,FnM (K1 P) f c x params code:=by
 obtain⟨cc,dd,fd,sl,h1,h2,h3,h4,h5,h6⟩:=h
 exact⟨fd.code,⟨cc,dd,fd,sl,h1,h2,h3,h4,h5,rfl,h6⟩,hn⟩
theorem ninit1 (P:Params):∃c,FnM (K1 P) T1.ninit "_NodeInfo" "__init__" ["self","node"] c:=fnm1 ⟨_,_,_,_,rfl,⟨rfl,rfl,rfl,rfl,rfl,rfl⟩,rfl,by kernel_rfl,rfl,jJ λzw zw=>rfl⟩ rfl
theorem topofn1 (P:Params):TopoFn (K1 P) T1 where
 ninit:=ninit1 P
 gni:=fnm1 ⟨_,_,_,_,rfl,⟨rfl,rfl,rfl,rfl,rfl,rfl⟩,rfl,by kernel_rfl,rfl,jJ λzw zw=>rfl⟩ rfl
 add:=⟨_,⟨_,_,_,_,rfl,⟨rfl,rfl,rfl,rfl,rfl,rfl⟩,rfl,by kernel_rfl,rfl,rfl,λvs ws h=>jJ (Q:=λvs=>bindArgs _ ⟨vs++ws,[]⟩=(do let t <- newTuple ws; pure ((_++[_]).zip (vs++[t])))) (λa b=>by cases ws <;> kernel_rfl) vs h⟩,rfl⟩
 prep:=fnm1 ⟨_,_,_,_,rfl,⟨rfl,rfl,rfl,rfl,rfl,rfl⟩,rfl,by kernel_rfl,rfl,fB λzw=>rfl⟩ rfl
 ready:=fnm1 ⟨_,_,_,_,rfl,⟨rfl,rfl,rfl,rfl,rfl,rfl⟩,rfl,by kernel_rfl,rfl,fB λzw=>rfl⟩ rfl
 active:=fnm1 ⟨_,_,_,_,rfl,⟨rfl,rfl,rfl,rfl,rfl,rfl⟩,rfl,by kernel_rfl,rfl,fB λzw=>rfl⟩ rfl
 done:=⟨_,⟨_,_,_,_,rfl,⟨rfl,rfl,rfl,rfl,rfl,rfl⟩,rfl,by kernel_rfl,rfl,rfl,λvs ws h=>fB (Q:=λvs=>bindArgs _ ⟨vs++ws,[]⟩=(do let t <- newTuple ws; pure ((_++[_]).zip (vs++[t])))) (λa=>by cases ws <;> kernel_rfl) vs h⟩,rfl⟩
 cyc:=fnm1 ⟨_,_,_,_,rfl,⟨rfl,rfl,rfl,rfl,rfl,rfl⟩,rfl,by kernel_rfl,rfl,fB λzw=>rfl⟩ rfl
 node:=rfl
 out:=⟨_,rfl⟩
 dn:=⟨_,rfl⟩
theorem init1 (P:Params):∃c,FnDM (K1 P) T1.init "TopologicalSorter" "__init__" ["self","graph"] 1 [.none] c :=
 ⟨_,⟨_,_,_,_,rfl,⟨rfl,rfl,rfl,rfl,rfl,rfl⟩,rfl,by kernel_rfl,rfl,rfl,fB λzw zw=>by kernel_rfl⟩,rfl⟩
theorem red1 (P:Params):∃c,RedFn (K1 P) 150 142 c :=
 ⟨_,⟨⟨_,_,_,_,rfl,⟨rfl,rfl,rfl,rfl,rfl,rfl⟩,rfl,by kernel_rfl,rfl,rfl,m0 λzw zw zw zw=>by kernel_rfl⟩,rfl⟩,rfl,⟨_,rfl,rfl⟩⟩
section
theorem bt1 (hg:g.K=K1 P){id:String}(h1:nsIn (K1 P) mainGlobals x=some none)(h2:bootBuiltins x=some (.builtin id))(h3:x≠"__name__"):Callee g x (.builtin id):=.bt (by rw [hg]; exact h1) h2 h3
theorem ty1 (hg:g.K=K1 P){id:String}(h1:nsIn (K1 P) mainGlobals x=some none)(h2:bootBuiltins x=some (.type id))(h3:x≠"__name__"):Callee g x (.type id):=.ty (by rw [hg]; exact h1) h2 h3
theorem names1 (hg:g.K=K1 P):Names g where
 int:=ty1 hg rfl rfl (by decide)
 len:=bt1 hg rfl rfl (by decide)
 min:=bt1 hg rfl rfl (by decide)
 max:=bt1 hg rfl rfl (by decide)
 sum:=bt1 hg rfl rfl (by decide)
 range:=ty1 hg rfl rfl (by decide)
 enum:=ty1 hg rfl rfl (by decide)
 zip:=ty1 hg rfl rfl (by decide)
structure Gr1 (g:Glob) (P:Params):Prop where
 k:g.K=K1 P
 names:Names g
 list:Callee g "list" (.type "list")
 set:Callee g "set" (.type "set")
 iter:Callee g "iter" (.builtin "iter")
 bool:Callee g "bool" (.type "bool")
 tuple:Callee g "tuple" (.type "tuple")
 stop:nsIn g.K mainGlobals "StopIteration"=some none
 topo:TopoOk g.K T1
 fns:TopoFn g.K T1
theorem gr1 (hg:g.K=K1 P):Gr1 g P where
 k:=hg
 names:=names1 hg
 list:=ty1 hg rfl rfl (by decide)
 set:=ty1 hg rfl rfl (by decide)
 iter:=bt1 hg rfl rfl (by decide)
 bool:=ty1 hg rfl rfl (by decide)
 tuple:=ty1 hg rfl rfl (by decide)
 stop:=by rw [hg]; rfl
 topo:=by rw [hg]; exact topo1 P
 fns:=by rw [hg]; exact topofn1 P
end
set_option backward.match.sparseCases false
section
noncomputable def stVal (s:Stmt):Expr:=if h:s.ctorIdx=5 then Stmt.Assign.elim (motive_2:=λzw=>Expr) s h λzw v zw=>v else .Constant .none 0 default
noncomputable abbrev T0:Tab:=⟨λzw zw=>none,λzw zw=>none⟩
noncomputable def iX (e:Expr):Scope:=if h:e.ctorIdx=8 then Expr.ListComp.elim (motive_1:=λzw=>Scope) e h λzw zw sc zw=>sc else default
theorem aV {names:List (Str×NameKind)}{dk:D×Nat}(h:names.lookup x=some .free)(hx:V.vars.lookup x=some dk):(V.inner names).vars.lookup x=some dk:=by
 show(V.vars.filter λp=>names.lookup p.1==some .free).lookup x=_
 rw [cN (λy=>names.lookup y==some .free),h]
 exact hx
theorem aX {y:Str}{dk:D×Nat}(h:V.vars.lookup y=some dk)(hne:(y==x)=false):(V.set x d 0).vars.lookup y=some dk:=by
 show((x,(d,0))::V.vars).lookup y=_
 rw [List.lookup_cons,hne]
 exact h
theorem bS:(V.set x d 0).vars.lookup x=some (d,0):=by
 show((x,(d,0))::V.vars).lookup x=_
 rw [List.lookup_cons]; simp
theorem eI {V0:Rho}{names:List (Str×NameKind)}(h:bW V0 names=true)(hsc:V.sc=V0.sc)(hv:∀p∈V0.vars,(V.vars.lookup p.1).isSome=true):bW V names=true:=by
 unfold bW at h ⊢
 rw [List.all_eq_true] at h ⊢
 intro p hp
 have:=h p hp
 rw [hsc]
 simp only [Bool.and_eq_true,Bool.or_eq_true] at this ⊢
 refine⟨this.1,?_⟩
 rcases this.2 with h1 | ⟨⟨h1,h2⟩,h3⟩
 ·exact .inl h1
 ·refine .inr ⟨⟨?_,h2⟩,h3⟩
  obtain⟨b,hb⟩:=Option.isSome_iff_exists.mp h1
  exact hv _ (PySem.mem_of_lookup hb)
theorem gZ {i:Nat}(h:ds[i]?=some d):idxD (.list ds) (i:Int)=some d:=by
 have hl:=(List.getElem?_eq_some_iff.mp h).1
 have e:seqIndex? (i:Int) ds.length=some i:=by
  unfold seqIndex?
  have h1:¬((i:Int) < 0):=by (simp +arith)
  simp only [h1,if_false]
  have h3:(0:Int)<=i:=by (simp +arith)
  simp [h3,hl]
 show(seqIndex? (i:Int) ds.length).bind _=_
 rw [e]; exact h
theorem sP {α β:Type}{f:α->Option β}{h:α->β}:∀{l:List α},(∀x∈l,f x=some (h x))->mapO f l=some (l.map h)
 | [],_=>rfl
 | x::l,e=>by
  unfold mapO
  rw [e x (by simp),sP (l:=l) λy hy=>e y (by simp [hy])]
  rfl
theorem cL {β:Type}{f:D->Option β}{h:Int->β}{l:List Int}(e:∀x∈l,f (.int x)=some (h x)):mapO f (l.map .int)=some (l.map h):=by
 have:=sP (f:=f) (h:=λd=>match d with | .int x=>h x | _=>h 0) (l:=l.map .int) λd hd=>by
  obtain⟨x,hx,rfl⟩:=List.mem_map.mp hd
  exact e x hx
 rw [this,List.map_map]; rfl
theorem cA {R:Ev}{ifs:List Expr}{scope:Scope}{xs:List Str}{items:List D}{outs:List (List D)}(hn:aR target=some xs)(hc:dE iter=true/\scope.kind=.function/\bW V scope.names=true/\bR scope.names xs=true)
  (hi:R.i V (ttOf target) iter=some items) (hm:mapO (nP R elt target ifs (V.inner scope.names)) items=some outs) (hz:outs.flatten.length<=cap):jO R V elt target iter ifs scope=some (.list outs.flatten,0):=by
 exact(bO hn).trans ((if_pos hc).trans ((bO hi).trans ((bO hm).trans (if_pos hz))))
theorem zV {R:Ev}{target' iter':Expr}{ifs ifs':List Expr}{scope:Scope}{xs xs':List Str}{items:List D}{outs:List (List D)}(hn:aR target=some xs)(hn':aR target'=some xs')(hc:dE iter=true/\dE iter'=true/\scope.kind=.function/\bW V scope.names=true/\bR scope.names xs=true/\bR scope.names xs'=true/\xs'.all (λx=>!xs.contains x)=true)
  (hi:R.i V (ttOf target) iter=some items) (hm:mapO (sY R elt target ifs target' iter' ifs' (V.inner scope.names)) items=some outs) (hz:outs.flatten.length<=cap):mO R V elt target iter ifs target' iter' ifs' scope=some (.list outs.flatten,0):=by
 exact(bO hn).trans ((bO hn').trans ((if_pos hc).trans ((bO hi).trans ((bO hm).trans (if_pos hz)))))
theorem cD {R:Ev}{e:D}(h:R.e (V.set x d 0) elt=some (e,0)):nP R elt (.Name x p) [] V d=some [e]:=by
 exact(show dkV (R.e (V.set x d 0) elt) (λe k=>if k=0 then some [e] else none)=_ from(gV h).trans rfl)
theorem rH {R:Ev}{target' iter':Expr}{ifs':List Expr}{items:List D}{outs:List (List D)}(hi:R.i (V.set x d 0) (ttOf target') iter'=some items)(hm:mapO (nP R elt target' ifs' (V.set x d 0)) items=some outs):sY R elt (.Name x p) [] target' iter' ifs' V d=some outs.flatten:=by
 exact(show((R.i (V.set x d 0) (ttOf target') iter').bind λitems=>(mapO (nP R elt target' ifs' (V.set x d 0)) items).bind λouts=>some outs.flatten)=_ from(bO hi).trans (bO hm))
section
variable {T:Tab} {R:Ev} {X:Rho->List Stmt->Option (Fl×Rho)}
theorem r_ix {o i:Expr}{a:D}{kz:Nat}{z:Int}(hk:T.hook V (.Subscript o i p)=none)(hs:SubS.notSlice i=true)(x:(Ev.at T n).e V o=some (a,0))(y:(Ev.at T n).e V i=some (.int z,kz))(h:idxD a z=some d):(Ev.at T (n+1)).e V (.Subscript o i p)=some (d,0):=jR hk hs x y h
end
section
variable {T:Tab} {R:Ev} {X:Rho->List Stmt->Option (Fl×Rho)}
theorem gT {ifs:List Expr}{scope:Scope}{r:Option DK}(hk:T.hook V (.ListComp elt [⟨target,iter,ifs,0⟩] scope p)=none)(h:jO (Ev.at T n) V elt target iter ifs scope=r):(Ev.at T (n+1)).e V (.ListComp elt [⟨target,iter,ifs,0⟩] scope p)=r:=by
 exact fW hk h
end
section
variable {T:Tab} {R:Ev} {X:Rho->List Stmt->Option (Fl×Rho)}
theorem sS (hp:vY e=none)(h:(Ev.at T n).e V e=some (.list ds,0)):(Ev.at T (n+1)).i V false e=some ds :=
 show orE ((vY e).bind _) id (xN (Ev.at T n) V false e)=_ from(oN (by rw [hp]; rfl)).trans ((gAl h).trans rfl)
end
section
variable {T:Tab} {R:Ev} {X:Rho->List Stmt->Option (Fl×Rho)}
theorem w8 {ifs:List Expr}{scope:Scope}(hx:stOk V x=true)(hs:cE V scope x np cp=true)(h:jO R V elt target iter ifs scope=some (d,0)):bB R X V (.Assign [.Name x np] (.ListComp elt [⟨target,iter,ifs,0⟩] scope cp) p)=some (.next,V.put x d 0):=by
 exact(show uU (if stOk V x=true then put0 V x (if cE V scope x np cp=true then jO R V elt target iter ifs scope else R.e V (.ListComp elt [⟨target,iter,ifs,0⟩] scope cp)) else none)=_ from bO (show(if stOk V x=true then put0 V x (if cE V scope x np cp=true then jO R V elt target iter ifs scope else R.e V (.ListComp elt [⟨target,iter,ifs,0⟩] scope cp)) else none)=some (V.put x d 0) from(if_pos hx).trans (by rw [if_pos hs]; exact(gV h).trans rfl)))
end
section
variable {T:Tab} {R:Ev} {X:Rho->List Stmt->Option (Fl×Rho)}
theorem qQ {ifs:List Expr}{scope:Scope}(hx:stOk V x=true)(hs:cE V scope x np cp=false)(h:R.e V (.ListComp elt [⟨target,iter,ifs,0⟩] scope cp)=some (d,0)):bB R X V (.Assign [.Name x np] (.ListComp elt [⟨target,iter,ifs,0⟩] scope cp) p)=some (.next,V.put x d 0):=by
 exact(show uU (if stOk V x=true then put0 V x (if cE V scope x np cp=true then jO R V elt target iter ifs scope else R.e V (.ListComp elt [⟨target,iter,ifs,0⟩] scope cp)) else none)=_ from bO ((if_pos hx).trans (by rw [if_neg (by rw [hs]; decide)]; exact(gV h).trans rfl)))
end
theorem cP {α β:Type}{f:α->β}:∀(l:List α),(l.map λx=>[f x]).flatten=l.map f
 | []=>rfl
 | x::l=>by simp [cP l]
theorem mF {α β:Type}{f:α->Option β}{a a' a'':α}{b b' b'':β}(h:f a=some b)(h':f a'=some b')(h'':f a''=some b''):mapO f [a,a',a'']=some [b,b',b'']:=by
 exact(bO h).trans ((bO (dM h' h'')).trans rfl)
theorem bt_sum {is:List Int}:btD "sum" [.list (is.map .int)]=some (.int is.sum):=by
 exact(show lsI (λis=>some (.int is.sum)) (.list (is.map .int))=_ from(bO (toInts_map is)).trans rfl)
theorem Run.pureS {W:Avoid}{R:Ev}{m:Nat}{st:Stmt}{ss:List Stmt}{Q:Flow->Shared->Prop}(r:Run c O M W V s)(okR:R.Ok c.g c.n)(hs:bB R (run R m) V st=some (.next,V'))
  (q:∀s',Chg (PM c.P M) s s'->Run c O M W V' s'->wpAny c.g.M c.Ar (execs ss c.env) Q E s'):wpAny c.g.M c.Ar (execs (st::ss) c.env) Q E s :=
 wpAny_execs_cons (r.stm (kD okR m hs) λfl s' hfl ch r'=>by
  have:fl=.next:=hfl
  subst this
  exact q s' ch r')
theorem vC {xs:List Int}(x:Rd O No h 0 (.ref a) (.list (xs.map .int))):Ints h a xs:=by
 obtain⟨a',vs,n,e,hz,hl,rs,_,_⟩:=bC x
 cases e
 exact⟨vs,n,hl,hz,rs.imp (λzw zw zw z=>z) (λzw zw zw h=>h) (Nat.le_refl _)⟩
theorem Ints.old {xs:List Int}(x:Ints h a xs):∃o,h.get? a=some o:=by
 obtain⟨vs,n,e,_⟩:=x
 exact⟨_,e⟩
noncomputable def e7 (xs:List Int) (lo hi st:Option Int):List Int :=
 (sliceRange (sliceBounds lo hi st xs.length).1 (sliceBounds lo hi st xs.length).2.1 (sliceBounds lo hi st xs.length).2.2).filterMap (xs[·]?)
theorem qO (xs:List Int)(lo hi st:Option Int):dK (xs.map .int) lo hi st=(e7 xs lo hi st).map .int:=by
 unfold dK e7
 rw [List.length_map,List.map_filterMap]
 congr 1
 funext i
 rw [List.getElem?_map]
theorem xJ {T:Tab}{o:Expr}{lo hi st:Option Expr}{q:Pos}{xs:List Int}{l h t:Option Int}(hk:T.hook V (.Subscript o (.Slice lo hi st q) p)=none)(hx:(Ev.at T n).e V o=some (.list (xs.map .int),k))(hl:gJ (Ev.at T n) V lo=some l)(hh:gJ (Ev.at T n) V hi=some h)(hs:gJ (Ev.at T n) V st=some t)(hc:k<=1/\t≠some 0) :
  (Ev.at T (n+1)).e V (.Subscript o (.Slice lo hi st q) p)=some (.list ((e7 xs l h t).map .int),0):=by
 exact fW hk (show orE (cutS (Ev.at T n) V o lo hi st) id _=_ from oS ((bO hl).trans ((bO hh).trans ((gAl hx).trans ((bO hs).trans ((if_pos hc).trans (by rw [qO])))))))
theorem nJ {α β γ:Type}{f:β->Option γ}{g:α->β}{h:α->γ}:∀{l:List α},(∀x∈l,f (g x)=some (h x))->mapO f (l.map g)=some (l.map h)
 | [],_=>rfl
 | x::l,e=>by
  rw [List.map_cons]
  exact(bO (e x (by simp))).trans ((bO (nJ (l:=l) λy hy=>e y (by simp [hy]))).trans rfl)
theorem u9 {R:Ev}{y:Str}{q r:Pos}{d1 d2 e:D}(h:R.e ((V.set x d1 0).set y d2 0) elt=some (e,0)):nP R elt (.Tuple [.Name x p,.Name y q] k r) [] V (.tuple [d1,d2])=some [e]:=by
 exact(show dkV (R.e ((V.set x d1 0).set y d2 0) elt) (λe k=>if k=0 then some [e] else none)=_ from(gV h).trans rfl)
theorem oX (xs:List Int):(e7 xs none (some 12) none).length<=12:=by
 unfold e7
 refine Nat.le_trans (List.length_filterMap_le _ _) ?_
 show(sliceRange 0 (max 0 (min 12 (xs.length:Int))) 1).length<=12
 unfold sliceRange
 rw [List.length_map,List.length_range]
 simp only [show(1:Int) > 0 from by decide,if_true]
 split
 ·rw [Int.ediv_one]; omega
 ·decide
theorem fR:TabOk ⟨λzw zw=>none,λzw zw=>none⟩ g n:=⟨λzw zw zw h=>(by cases h),λzw zw zw zw h=>(by cases h)⟩
end
section
open PySem.Builtin.Str
noncomputable abbrev Ent:=Str×(List D->Option D)
noncomputable def tabOf (l:List Ent):Tab:=⟨λf ds=>(l.lookup f).bind λF=>F ds,λzw zw=>none⟩
structure EntOk (g:Glob) (n:Nat) (e:Ent):Prop where
 ok:∃v,Callee g e.1 v/\∀ds d,e.2 ds=some d->aZ g n v ds 0 d 0
theorem m6 {l:List Ent}(h:∀e∈l,EntOk g n e):TabOk (tabOf l) g n :=
 ⟨λf ds d hd=>bd hd λF hF hd=>by
  obtain⟨v,h1,h2⟩:=(h _ (PySem.mem_of_lookup hF)).ok
  exact⟨v,h1,h2 _ _ hd⟩,λzw zw zw zw h=>(by cases h)⟩
theorem qN (xs:List D)(j:Nat)(h:j<=xs.length):dK xs none (some j) none=xs.take j:=by
 unfold dK
 rw [sliceBounds_plain]
 have e:clipAt xs.length (j:Int)=j:=by
  have:=clipAt_cast xs.length (j:Int)
  rw [if_neg (by (simp +arith))] at this
  grind
 show((sliceRange ((0:Nat):Int) ((clipAt xs.length (j:Int):Nat):Int) 1).filterMap (xs[·]?))=_
 rw [e,sliceRange_one,sJ xs _ _ (by simpa using h)]
 ·rfl
 ·exact Nat.zero_le _
section
variable {T:Tab}
theorem r_cutD {o:Expr}{lo hi st:Option Expr}{q:Pos}{xs:List D}{l h t:Option Int}(hk:T.hook V (.Subscript o (.Slice lo hi st q) p)=none)(hx:(Ev.at T n).e V o=some (.list xs,k))(hl:gJ (Ev.at T n) V lo=some l)(hh:gJ (Ev.at T n) V hi=some h)(hs:gJ (Ev.at T n) V st=some t)(hc:k<=1/\t≠some 0) :
  (Ev.at T (n+1)).e V (.Subscript o (.Slice lo hi st q) p)=some (.list (dK xs l h t),0) :=
 fW hk (show orE (cutS (Ev.at T n) V o lo hi st) id _=_ from oS ((bO hl).trans ((bO hh).trans ((gAl hx).trans ((bO hs).trans (if_pos hc))))))
end
section
variable {T:Tab}
theorem r_str {c:Nat}(hk:T.hook V (.Constant (.str x) c p)=none):(Ev.at T (n+1)).e V (.Constant (.str x) c p)=some (.str x,0):=fW hk rfl
end
section
variable {T:Tab}
theorem r_if {c a b:Expr}{t:Bool}{r:Option DK}(hk:T.hook V (.IfExp c a b p)=none)(hc:(Ev.at T n).t V c=some t)(h:(if t=true then (Ev.at T n).e V a else (Ev.at T n).e V b)=r):(Ev.at T (n+1)).e V (.IfExp c a b p)=r :=
 fW hk (show ifE (Ev.at T n) V c a b=r from(bO hc).trans h)
end
theorem sQ {R:Ev}{c:Expr}{e:D}{b:Bool}(hc:R.t (V.set x d 0) c=some b)(h:R.e (V.set x d 0) elt=some (e,0)):nP R elt (.Name x p) [c] V d=some (if b=true then [e] else []):=by
 refine(show((l0 (R.t (V.set x d 0) c) ([]:List Expr)).bind λb=>if b=true then dkV (R.e (V.set x d 0) elt) λe k=>if k=0 then some [e] else none else some [])=_ from(bO (show l0 (R.t (V.set x d 0) c) ([]:List Expr)=some b from hc)).trans ?_)
 cases b
 ·rfl
 ·exact(if_pos rfl).trans ((gV h).trans rfl)
theorem eW {α β:Type}{f:α->β}{p:α->Bool}:∀(l:List α),(l.map λx=>if p x=true then [f x] else []).flatten=(l.filter p).map f
 | []=>rfl
 | x::l=>by
  rw [List.map_cons,List.flatten_cons,eW l,List.filter_cons]
  split <;> rfl
theorem hY:∀ps:List Int,PyData.canLayAll0 (ps.map .int)=true
 | []=>rfl
 | p::ps=>(show(true && PyData.canLayAll0 (ps.map .int))=true from hY ps)
theorem eX:∀xs ys:List Int,PyData.eqvAll (xs.map .int) (ys.map .int)=(xs==ys)
 | [],[]=>rfl
 | [],_::_=>rfl
 | _::_,[]=>rfl
 | x::xs,y::ys=>(show((x==y) && PyData.eqvAll (xs.map .int) (ys.map .int))=((x==y) && (xs==ys)) by rw [eX])
theorem jC:∀ps:List Int,PyData.depthAll (ps.map .int)<=0
 | []=>Nat.le_refl _
 | p::ps=>(show max 0 (PyData.depthAll (ps.map .int))<=0 from Nat.max_le.mpr ⟨Nat.le_refl _,jC ps⟩)
theorem gQ (ps:List Int):SeqAt.shaped (.list (ps.map .int))=true:=by
 have h1:=hY ps
 have h2:=jC ps
 refine Bool.and_eq_true_iff.mpr ⟨h1,decide_eq_true (show PyData.depthAll _+1<=64 by omega)⟩
theorem ne_ints (xs ys:List Int):cmpD .NotEq (.list (xs.map .int)) (.list (ys.map .int))=some (xs != ys) :=
 (if_pos ⟨gQ xs,gQ ys⟩).trans (congrArg some (congrArg (!·) (eX xs ys)))
theorem r_cmp {T:Tab}{l r:Expr}{op:CmpOp}{a b:D}{ka kb:Nat}{c:Bool}(hk:T.hook V (.Compare l [op] [r] p)=none)(hm:behindInMarks op r=false)(ha:(Ev.at T n).e V l=some (a,ka))(hb:(Ev.at T n).e V r=some (b,kb))(hc:cmpD op a b=some c):(Ev.at T (n+1)).e V (.Compare l [op] [r] p)=some (.bool c,0) :=
 fW hk (show cmpE1 (Ev.at T n) V l (λb=>(PyData.bool b,0)) op r=_ from(if_pos hm).trans ((gV ha).trans ((gV hb).trans ((bO hc).trans rfl))))
structure Has (sc:List (Str×NameKind)) (l:List (Str×D)) (V:Rho):Prop where
 sc:V.sc=sc
 is:∀x d,l.lookup x=some d->V.is x d
section
variable {sc:List (Str×NameKind)} {l:List (Str×D)} (H:Has sc l V)
include H
theorem Has.put:Has sc ((x,d)::l) (V.put x d 0):=⟨H.sc,λy e hy=>by
 rw [List.lookup_cons] at hy
 show(V.put x d 0).vars.lookup y=some (e,0)
 rw [cY]
 cases h:y==x with
 | true=>rw [h] at hy; cases hy; rfl
 | false=>rw [h] at hy; exact H.is y e hy⟩
end
section
variable {sc:List (Str×NameKind)} {l:List (Str×D)} (H:Has sc l V)
include H
theorem Has.st (hx:(sc.lookup x==some .local || sc.lookup x==some .cell)=true):stOk V x=true:=stn H.sc hx
end
section
variable {sc:List (Str×NameKind)} {l:List (Str×D)} (H:Has sc l V)
include H
theorem Has.glob {k:NameKind}(h:sc.lookup x=some k):V.sc.lookup x=some k:=by rw [H.sc]; exact h
end
section
variable {sc:List (Str×NameKind)} {l:List (Str×D)} (H:Has sc l V)
include H
theorem Has.free {names:List (Str×NameKind)}(h:bW ⟨sc,l.map λp=>(p.1,(.none,0))⟩ names=true):bW V names=true:=by
 refine eI h H.sc λp hp=>?_
 obtain⟨q,hq,rfl⟩:=List.mem_map.mp hp
 have e:∀l:List (Str×D),q∈l->(l.lookup q.1).isSome=true:=λl=>by
  induction l with
  | nil=>intro h; cases h
  | cons a l ih =>
   intro h
   rw [List.lookup_cons]
   cases e:q.1==a.1 with
   | true=>rfl
   | false =>
    rcases List.mem_cons.mp h with h | h
    ·rw [h] at e; simp at e
    ·exact ih h
 obtain⟨d,hd⟩:=Option.isSome_iff_exists.mp (e l hq)
 have:V.vars.lookup q.1=some (d,0):=H.is _ _ hd
 rw [this]; rfl
end
section
variable {sc:List (Str×NameKind)} {l:List (Str×D)} (H:Has sc l V)
include H
theorem Has.swaps {scope:Scope}{b:Bool}(h:cE ⟨sc,[]⟩ scope x np cp=b):cE V scope x np cp=b:=by
 unfold cE at h ⊢
 rw [H.sc]; exact h
end
theorem Run.cxKeep {W:Avoid}(r:Run c O No W V s)(cx:Cx No c.Fc s s'):Run c O No W V s'/\∀b o,W b->s.heap.get? b=some o->s'.heap.get? b=some o:=by
 have wF:∀b,W b->¬c.Fc b:=r.at.wf
 have kp:∀b o,W b->s.heap.get? b=some o->s'.heap.get? b=some o:=λb o hb e=>(cx.2 b o id e).2 (wF b hb)
 have al:Alloc W s':=λb hb=>by
  obtain⟨o,e⟩:=r.act.aO b (r.wo b hb)
  exact⟨_,kp b o hb e⟩
 have r4:=r.eff (W':=W) (cx.mono (λzw h=>h.elim) λzw h=>h) (λzw h=>h) (λzw h=>.inl h) al
 rw [or_self r.wo] at r4
 exact⟨r4,kp⟩
section
variable {W:Avoid} {l:List (Str×D)} {Q:Flow->Shared->Prop}
theorem Run.pureH {R:Ev}{sc:List (Str×NameKind)}{m:Nat}{st:Stmt}{ss:List Stmt}(r:Run c O M W V s)(H:Has sc l V)(okR:R.Ok c.g c.n)(hs:bB R (run R m) V st=some (.next,V.put x d 0))
  (q:∀V' s',(∀b o,W b->s.heap.get? b=some o->s'.heap.get? b=some o)->Run c O M W V' s'->Has sc ((x,d)::l) V'->wpAny c.g.M c.Ar (execs ss c.env) Q E s'):wpAny c.g.M c.Ar (execs (st::ss) c.env) Q E s :=
 r.pureS okR hs λs' c' r'=>q _ s' (r.same c') r' H.put
end
theorem Run.testG {W:Avoid}{b:Bool}{Q:Bool->Shared->Prop}(r:Run c O M W V s)(x:TestS c.g c.n V e b)
  (q:∀s',Keeps s s'->Run c O M W V s'->Q b s'):wpAny c.g.M c.Ar (isTrue e c.env (eval e c.env)) Q E s :=
 wpAny_mono (x O M c.env c.Ar s E r.act.up r.rm r.act.aO r.act.aM r.act.eo) (λv s' ⟨k,rd⟩=>by subst rd; exact q s' k (r.keeps k)) λzw zw z=>z
end
set_option backward.match.sparseCases true
section
noncomputable def byF (T:Nat->Nat->Int) (m:Nat) (i j:Nat):Int:=min (T i j) (max (T i m) (T m j))
theorem byF_le {T:Nat->Nat->Int}{m i j:Nat}{v:Int}:byF T m i j<=v↔T i j<=v\/(T i m<=v/\T m j<=v):=by
 unfold byF
 rw [<- Int.max_le]
 rcases Int.le_total (T i j) (max (T i m) (T m j)) with h | h
 ·rw [Int.min_eq_left h]
  exact⟨.inl,λx=>x.elim id λx=>Int.le_trans h x⟩
 ·rw [Int.min_eq_right h]
  exact⟨.inr,λx=>x.elim (λx=>Int.le_trans h x) id⟩
structure Low (T U:Nat->Nat->Int):Prop where
 z:∀a,U a a=0
 n:∀a b,0<=U a b
 y:∀a b,U a b=U b a
 l:∀a b,U a b<=T a b
 c:∀(S:Nat->Bool) a b v,a < 5->b < 5->U a b<=v->S a≠S b->∃c d,c < 5/\d < 5/\S c≠S d/\T c d<=v
theorem Low.by {T U:Nat->Nat->Int}(h:Low T U){m:Nat}(hm:m < 5):Low T (byF U m):=by
 refine⟨λa=>?_,λa b=>?_,λa b=>?_,λa b=>byF_le.mpr (.inl (h.l a b)),λS a b v ha hb hv hs=>?_⟩
 ·unfold byF
  rw [h.z a,h.y m a,Int.max_self]
  exact Int.min_eq_left (h.n a m)
 ·exact Int.le_min.mpr ⟨h.n a b,Int.le_trans (h.n a m) (Int.le_max_left ..)⟩
 ·unfold byF
  rw [h.y a b,h.y a m,h.y m b,Int.max_comm]
 ·rcases byF_le.mp hv with hv | ⟨h1,h2⟩
  ·exact h.c S a b v ha hb hv hs
  ·by_cases e:S a=S m
   ·exact h.c S m b v hm hb h2 (λz=>hs (e.trans z))
   ·exact h.c S a m v ha hm h1 e
noncomputable def Mid (U:Nat->Nat->Int) (m:Nat):Prop:=∀a b v,U a m<=v->U m b<=v->U a b<=v
theorem by_same {T U:Nat->Nat->Int}(h:Low T U)(k a:Nat){v:Int}:byF U k a k<=v↔U a k<=v:=by
 rw [byF_le,h.z k]
 exact⟨λx=>x.elim id (·.1),.inl⟩
theorem by_same' {T U:Nat->Nat->Int}(h:Low T U)(k a:Nat){v:Int}:byF U k k a<=v↔U k a<=v:=by
 rw [byF_le,h.z k]
 exact⟨λx=>x.elim id (·.2),.inl⟩
theorem Mid.new {T U:Nat->Nat->Int}(h:Low T U)(k:Nat):Mid (byF U k) k:=λa b v h1 h2 =>
 byF_le.mpr (.inr ⟨(by_same h k a).mp h1,(by_same' h k b).mp h2⟩)
theorem Mid.by {U:Nat->Nat->Int}{m:Nat}(x:Mid U m)(k:Nat):Mid (byF U k) m:=λa b v h1 h2=>by
 rw [byF_le] at h1 h2 ⊢
 rcases h1 with h1 | ⟨h1,h1'⟩ <;> rcases h2 with h2 | ⟨h2,h2'⟩
 ·exact .inl (x a b v h1 h2)
 ·exact .inr ⟨x a k v h1 h2,h2'⟩
 ·exact .inr ⟨h1,x k b v h1' h2⟩
 ·exact .inr ⟨h1,h2'⟩
theorem nX {T:Nat->Nat->Int}:∀(ms:List Nat) {U:Nat->Nat->Int},Low T U->(∀m∈ms,m < 5)->Low T (ms.foldl byF U)/\(∀m,(Mid U m\/m∈ms)->Mid (ms.foldl byF U) m)
 | [],U,h,_=>⟨h,λm hm=>hm.elim id λz=>by cases z⟩
 | k::ms,U,h,hm=>by
  obtain⟨h1,h2⟩:=nX ms (h.by (hm k (List.mem_cons_self ..))) λm hh=>hm m (List.mem_cons_of_mem _ hh)
  refine⟨h1,λm hh=>h2 m ?_⟩
  rcases hh with hh | hh
  ·exact .inl (hh.by k)
  ·rcases List.mem_cons.mp hh with rfl | hh
   ·exact .inl (Mid.new h m)
   ·exact .inr hh
structure Ult (T U:Nat->Nat->Int):Prop where
 low:Low T U
 sy:∀a b,T a b=T b a
 tr:∀a b c v,b < 5->U a b<=v->U b c<=v->U a c<=v
theorem ult_of {T:Nat->Nat->Int}(h:Low T T)(sy:∀a b,T a b=T b a){ms:List Nat}(hm:∀m∈ms,m < 5)(ha:∀m,m < 5->m∈ms):Ult T (ms.foldl byF T) :=
 ⟨(nX ms h hm).1,sy,λa b c v hb h1 h2=>(nX ms h hm).2 b (.inr (ha b hb)) a c v h1 h2⟩
theorem low_self {T:Nat->Nat->Int}(z:∀a,T a a=0)(n:∀a b,0<=T a b)(y:∀a b,T a b=T b a):Low T T :=
 ⟨z,n,y,λzw zw=>Int.le_refl _,λS a b v ha hb hv hs=>⟨a,b,ha,hb,hs,hv⟩⟩
noncomputable def b7 (g:List Nat) (kept gone:Nat):List Nat:=g.map λx=>if x=gone then kept else x
noncomputable def jS (g:List Nat) (kept gone a b:Nat):Bool:=g.getD a 9==kept && g.getD b 9==gone
noncomputable def kR (g:List Nat) (H:Nat->Nat->Int) (kept gone:Nat) (w:Int) (a b:Nat):Int:=if (jS g kept gone a b || jS g kept gone b a)=true then w else H a b
theorem bV {g:List Nat}{kept gone a:Nat}(h:a < g.length):(b7 g kept gone).getD a 9=if g.getD a 9=gone then kept else g.getD a 9:=by
 unfold b7
 rw [List.getD_eq_getElem?_getD,List.getD_eq_getElem?_getD,List.getElem?_map,List.getElem?_eq_getElem h]
 rfl
theorem fT {g:List Nat}{kept gone a b:Nat}:jS g kept gone a b=true↔g.getD a 9=kept/\g.getD b 9=gone:=by
 unfold jS
 rw [Bool.and_eq_true,beq_iff_eq,beq_iff_eq]
noncomputable def HOk (g:List Nat) (H U:Nat->Nat->Int):Prop:=∀a b,a < 5->b < 5->g.getD a 9=g.getD b 9->H a b=U a b
structure Melt (T U:Nat->Nat->Int) (g:List Nat) (s e:Nat):Prop where
 len:g.length=5
 s5:s < 5
 e5:e < 5
 ne:g.getD s 9≠g.getD e 9
 small:∀a b,a < 5->b < 5->g.getD a 9=g.getD b 9->(g.getD a 9=g.getD s 9\/g.getD a 9=g.getD e 9)->U a b<=T s e
 cut:∀c d,c < 5->d < 5->(g.getD c 9==g.getD s 9)≠(g.getD d 9==g.getD s 9)->T s e<=T c d
section
variable {T U:Nat->Nat->Int} (X:Ult T U) {g:List Nat} {s e:Nat} (Y:Melt T U g s e)
include X Y
theorem Melt.eq {a b:Nat}(ha:a < 5)(hb:b < 5)(h1:g.getD a 9=g.getD s 9)(h2:g.getD b 9=g.getD e 9):U a b=T s e:=by
 refine Int.le_antisymm ?_ ?_
 ·exact X.tr a s b _ Y.s5 (Y.small a s ha Y.s5 h1 (.inl h1)) (X.tr s e b _ Y.e5 (X.low.l s e) (Y.small e b Y.e5 hb h2.symm (.inr rfl)))
 ·refine Int.not_lt.mp λhlt=>?_
  obtain⟨c,d,hc,hd,hs,ht⟩:=X.low.c (λx=>g.getD x 9==g.getD s 9) a b (T s e - 1) ha hb (Int.le_sub_one_of_lt hlt) (by
   show(g.getD a 9==g.getD s 9)≠(g.getD b 9==g.getD s 9)
   rw [h1,h2,beq_self_eq_true,Ne,eq_comm,beq_iff_eq]
   exact λz=>Y.ne z.symm)
  have:=Y.cut c d hc hd hs
  omega
theorem Melt.same {a b:Nat}(ha:a < 5)(hb:b < 5)(h:(b7 g (g.getD s 9) (g.getD e 9)).getD a 9=(b7 g (g.getD s 9) (g.getD e 9)).getD b 9) :
  g.getD a 9=g.getD b 9\/(g.getD a 9=g.getD s 9/\g.getD b 9=g.getD e 9)\/(g.getD b 9=g.getD s 9/\g.getD a 9=g.getD e 9):=by
 rw [bV (by rw [Y.len]; exact ha),bV (by rw [Y.len]; exact hb)] at h
 by_cases h1:g.getD a 9=g.getD e 9
 ·rw [if_pos h1] at h
  by_cases h2:g.getD b 9=g.getD e 9
  ·exact .inl (h1.trans h2.symm)
  ·rw [if_neg h2] at h
   exact .inr (.inr ⟨h.symm,h1⟩)
 ·rw [if_neg h1] at h
  by_cases h2:g.getD b 9=g.getD e 9
  ·rw [if_pos h2] at h
   exact .inr (.inl ⟨h,h2⟩)
  ·rw [if_neg h2] at h
   exact .inl h
theorem Melt.ok {H:Nat->Nat->Int}(h:HOk g H U):HOk (b7 g (g.getD s 9) (g.getD e 9)) (kR g H (g.getD s 9) (g.getD e 9) (T s e)) U:=λa b ha hb hs=>by
 unfold kR
 rcases Y.same X ha hb hs with h1 | ⟨h1,h2⟩ | ⟨h1,h2⟩
 ·rw [if_neg]
  ·exact h a b ha hb h1
  ·rw [Bool.or_eq_true,fT,fT,h1]
   exact λz=>z.elim (λz=>Y.ne (z.1.symm.trans z.2)) λz=>Y.ne (z.1.symm.trans z.2)
 ·rw [if_pos (by rw [Bool.or_eq_true,fT]; exact .inl ⟨h1,h2⟩)]
  exact(Y.eq X ha hb h1 h2).symm
 ·rw [if_pos (by rw [Bool.or_eq_true,fT,fT]; exact .inr ⟨h1,h2⟩),X.low.y a b]
  exact(Y.eq X hb ha h1 h2).symm
theorem Melt.le {a b:Nat}(ha:a < 5)(hb:b < 5)(h:(b7 g (g.getD s 9) (g.getD e 9)).getD a 9=(b7 g (g.getD s 9) (g.getD e 9)).getD b 9) :
  (g.getD a 9=g.getD b 9/\g.getD a 9≠g.getD s 9/\g.getD a 9≠g.getD e 9)\/((g.getD a 9=g.getD s 9\/g.getD a 9=g.getD e 9)/\U a b<=T s e):=by
 rcases Y.same X ha hb h with h1 | ⟨h1,h2⟩ | ⟨h1,h2⟩
 ·by_cases h2:g.getD a 9=g.getD s 9\/g.getD a 9=g.getD e 9
  ·exact .inr ⟨h2,Y.small a b ha hb h1 h2⟩
  ·exact .inl ⟨h1,λz=>h2 (.inl z),λz=>h2 (.inr z)⟩
 ·exact .inr ⟨.inl h1,Int.le_of_eq (Y.eq X ha hb h1 h2)⟩
 ·exact .inr ⟨.inr h2,by rw [X.low.y a b]; exact Int.le_of_eq (Y.eq X hb ha h1 h2)⟩
end
end
noncomputable abbrev Tri:=Int×Nat×Nat
noncomputable def prs10:List (Nat×Nat):=[(0,1),(0,2),(1,2),(0,3),(1,3),(2,3),(0,4),(1,4),(2,4),(3,4)]
noncomputable def triOf (T:Nat->Nat->Int) (p:Nat×Nat):Tri:=(T p.1 p.2,p.1,p.2)
noncomputable def kM (T:Nat->Nat->Int):List Tri:=prs10.map (triOf T)
theorem prs10_lt:∀b < 5,∀a < b,(a,b)∈prs10:=by decide +kernel
theorem sI:∀p∈prs10,p.1 < p.2/\p.2 < 5:=by decide +kernel
structure Steps (T:Nat->Nat->Int) (st:List Tri):Prop where
 mem:∀t,t∈st↔t∈kM T
 srt:st.Pairwise λx y=>x.1<=y.1
theorem Steps.at {T:Nat->Nat->Int}{st:List Tri}(S:Steps T st){t:Tri}(h:t∈st):t.1=T t.2.1 t.2.2/\t.2.1 < t.2.2/\t.2.2 < 5:=by
 obtain⟨p,hp,rfl⟩:=List.mem_map.mp ((S.mem t).mp h)
 exact⟨rfl,sI p hp⟩
theorem Steps.has {T:Nat->Nat->Int}{st:List Tri}(S:Steps T st){a b:Nat}(hb:b < 5)(h:a < b):(T a b,a,b)∈st :=
 (S.mem _).mpr (List.mem_map.mpr ⟨(a,b),prs10_lt b hb a h,rfl⟩)
noncomputable def g0:List Nat:=[0,1,2,3,4]
noncomputable def fU (x:List Nat×(Nat->Nat->Int)) (t:Tri):List Nat×(Nat->Nat->Int) :=
 if x.1.getD t.2.1 9=x.1.getD t.2.2 9 then x else (b7 x.1 (x.1.getD t.2.1 9) (x.1.getD t.2.2 9),kR x.1 x.2 (x.1.getD t.2.1 9) (x.1.getD t.2.2 9) t.1)
structure JInv (T U:Nat->Nat->Int) (x:List Nat×(Nat->Nat->Int)) (rest:List Tri):Prop where
 len:x.1.length=5
 h:HOk x.1 x.2 U
 out:∀a b,a < b->b < 5->x.1.getD a 9≠x.1.getD b 9->(T a b,a,b)∈rest
 le:∀a b,a < 5->b < 5->x.1.getD a 9=x.1.getD b 9->∀t∈rest,U a b<=t.1
theorem fS {g:List Nat}{o:Nat}:(b7 g k o).length=g.length:=List.length_map ..
theorem JInv.step {T U:Nat->Nat->Int}(X:Ult T U){x:List Nat×(Nat->Nat->Int)}{t:Tri}{rest:List Tri}(J:JInv T U x (t::rest))(ht:t.1=T t.2.1 t.2.2/\t.2.1 < t.2.2/\t.2.2 < 5)(hs:(t::rest).Pairwise λx y=>x.1<=y.1):JInv T U (fU x t) rest:=by
 obtain⟨w,s,e⟩:=t
 obtain⟨hw,hse,he⟩:=ht
 have hw:w=T s e:=hw
 have hse:s < e:=hse
 have he:e < 5:=he
 have h5:s < 5:=Nat.lt_trans hse he
 rw [List.pairwise_cons] at hs
 unfold fU
 dsimp only
 by_cases hg:x.1.getD s 9=x.1.getD e 9
 ·rw [if_pos hg]
  refine⟨J.len,J.h,λa b h1 h2 h3=>?_,λa b ha hb h t ht=>J.le a b ha hb h t (List.mem_cons_of_mem _ ht)⟩
  rcases List.mem_cons.mp (J.out a b h1 h2 h3) with z | z
  ·cases z; exact absurd hg h3
  ·exact z
 ·rw [if_neg hg]
  have cut:∀c d,c < 5->d < 5->x.1.getD c 9≠x.1.getD d 9->T s e<=T c d:=λc d hc hd hcd=>by
   have go:∀a b,a < b->b < 5->x.1.getD a 9≠x.1.getD b 9->T s e<=T a b:=λa b h1 h2 h3=>by
    rcases List.mem_cons.mp (J.out a b h1 h2 h3) with z | z
    ·cases z; exact Int.le_refl _
    ·exact hw ▸ hs.1 _ z
   rcases Nat.lt_trichotomy c d with h | h | h
   ·exact go c d h hd hcd
   ·rw [h] at hcd; exact absurd rfl hcd
   ·rw [X.sy c d]; exact go d c h hc (Ne.symm hcd)
  have M:Melt T U x.1 s e:=⟨J.len,h5,he,hg,λa b ha hb h zw=>hw ▸ J.le a b ha hb h _ (List.mem_cons_self ..),λc d hc hd h=>cut c d hc hd λz=>h (by rw [z])⟩
  rw [hw]
  refine⟨by rw [fS]; exact J.len,M.ok X J.h,λa b h1 h2 h3=>?_,λa b ha hb h t ht=>?_⟩
  ·have ha:a < 5:=Nat.lt_trans h1 h2
   have hab:x.1.getD a 9≠x.1.getD b 9:=λz=>h3 (by rw [bV (by rw [J.len]; exact ha),bV (by rw [J.len]; exact h2),z])
   rcases List.mem_cons.mp (J.out a b h1 h2 hab) with z | z
   ·cases z
    refine absurd ?_ h3
    rw [bV (by rw [J.len]; exact ha),bV (by rw [J.len]; exact h2),if_pos rfl,if_neg hg]
   ·exact z
  ·rcases M.le X ha hb h with ⟨h1,_⟩ | ⟨_,h1⟩
   ·exact J.le a b ha hb h1 t (List.mem_cons_of_mem _ ht)
   ·exact Int.le_trans h1 (hw ▸ hs.1 t ht)
theorem sR {T U:Nat->Nat->Int}(X:Ult T U):∀(rest:List Tri) {x:List Nat×(Nat->Nat->Int)},JInv T U x rest->(∀t∈rest,t.1=T t.2.1 t.2.2/\t.2.1 < t.2.2/\t.2.2 < 5)->(rest.Pairwise λx y=>x.1<=y.1)->JInv T U (rest.foldl fU x) []
 | [],_,J,_,_=>J
 | t::rest,_,J,ht,hs=>sR X rest (J.step X (ht t (List.mem_cons_self ..)) hs) (λu hu=>ht u (List.mem_cons_of_mem _ hu)) (List.pairwise_cons.mp hs).2
theorem g0_ne:∀a < 5,∀b < 5,g0.getD a 9=g0.getD b 9->a=b:=by decide +kernel
theorem hok0 {T U:Nat->Nat->Int}(X:Ult T U):HOk g0 (λzw zw=>0) U:=λa b ha hb h=>by
 rw [g0_ne a ha b hb h,X.low.z]
noncomputable def rC (st:List Tri):Nat->Nat->Int:=(st.foldl fU (g0,λzw zw=>0)).2
theorem join_eq {T U:Nat->Nat->Int}(X:Ult T U){st:List Tri}(S:Steps T st){a b:Nat}(ha:a < 5)(hb:b < 5):rC st a b=U a b:=by
 have J0:JInv T U (g0,λzw zw=>0) st:=⟨rfl,hok0 X,λa b h1 h2 zw=>S.has h2 h1,λa b ha hb h t ht=>by
  obtain⟨h1,h2,h3⟩:=S.at ht
  rw [g0_ne a ha b hb h,X.low.z,h1]
  exact Int.le_trans (X.low.n _ _) (X.low.l _ _)⟩
 have J:=sR X st J0 (λt ht=>S.at ht) S.srt
 unfold rC
 generalize st.foldl fU (g0,λzw zw=>0)=x at J ⊢
 refine J.h a b ha hb (Decidable.byContradiction λz=>?_)
 rcases Nat.lt_trichotomy a b with h | h | h
 ·cases J.out a b h hb z
 ·rw [h] at z; exact z rfl
 ·cases J.out b a h ha (Ne.symm z)
section
noncomputable abbrev at5 (g:List Nat) (i:Nat):Nat:=g.getD i 9
noncomputable def leaves (g:List Nat) (l:Nat) (t:Tri):Bool:=(at5 g t.2.1==l) != (at5 g t.2.2==l)
noncomputable def idxN (st:List Tri) (g:List Nat) (l:Nat):Nat:=st.findIdx (leaves g l)
noncomputable def near (st:List Tri) (g:List Nat) (l:Nat):Tri:=st.getD (idxN st g l) (0,0,0)
noncomputable def farF (st:List Tri) (g:List Nat) (l:Nat):Nat:=at5 g (near st g l).2.1+at5 g (near st g l).2.2 - l
theorem leaves_iff {g:List Nat}{l:Nat}{t:Tri}:leaves g l t=true↔(at5 g t.2.1=l/\at5 g t.2.2≠l)\/(at5 g t.2.1≠l/\at5 g t.2.2=l):=by
 unfold leaves
 rw [bne_iff_ne,Ne,Bool.eq_iff_iff,beq_iff_eq,beq_iff_eq]
 generalize at5 g t.2.1=x,at5 g t.2.2=y
 by_cases h1:x=l <;> by_cases h2:y=l <;> simp [h1,h2]
theorem kZ {α:Type}(p:α->Bool)(d:α):∀l:List α,l.findIdx p < l.length->(l.filter p)[0]?=some (l.getD (l.findIdx p) d)
 | [],h=>by cases h
 | x::l,h=>by
  rw [List.findIdx_cons] at h ⊢
  cases hp:p x with
  | true=>rw [List.filter_cons,if_pos hp]; rfl
  | false =>
   rw [hp] at h
   rw [List.filter_cons,if_neg (by rw [hp]; decide)]
   exact kZ p d l (Nat.lt_of_succ_lt_succ h)
structure NearOk (T:Nat->Nat->Int) (st:List Tri) (g:List Nat) (l:Nat):Prop where
 lt:idxN st g l < st.length
 lv:leaves g l (near st g l)=true
 mem:near st g l∈st
 min:∀c d,c < 5->d < 5->(at5 g c==l)≠(at5 g d==l)->(near st g l).1<=T c d
theorem near_ok {T:Nat->Nat->Int}{st:List Tri}{g:List Nat}(S:Steps T st)(sy:∀a b,T a b=T b a){l a b:Nat}(ha:a < 5)(hb:b < 5)(h1:at5 g a=l)(h2:at5 g b≠l):NearOk T st g l:=by
 have inS:∀c d,c < 5->d < 5->(at5 g c==l)≠(at5 g d==l)->∃t∈st,leaves g l t=true/\t.1=T c d:=λc d hc hd h=>by
  rcases Nat.lt_trichotomy c d with hcd | hcd | hcd
  ·exact⟨_,S.has hd hcd,bne_iff_ne.mpr h,rfl⟩
  ·rw [hcd] at h; exact absurd rfl h
  ·exact⟨_,S.has hc hcd,bne_iff_ne.mpr (Ne.symm h),sy d c⟩
 have lt:idxN st g l < st.length:=by
  obtain⟨t,ht,hl,_⟩:=inS a b ha hb (by rw [Ne,Bool.eq_iff_iff,beq_iff_eq,beq_iff_eq]; exact λz=>h2 (z.mp h1))
  exact List.findIdx_lt_length_of_exists ⟨t,ht,hl⟩
 have e:near st g l=st[idxN st g l]:=by
  unfold near
  rw [List.getD_eq_getElem?_getD,List.getElem?_eq_getElem lt]; rfl
 refine⟨lt,by rw [e]; exact List.findIdx_getElem (w:=lt),by rw [e]; exact List.getElem_mem _,λc d hc hd h=>?_⟩
 obtain⟨t,ht,hl,hw⟩:=inS c d hc hd h
 obtain⟨i,hi,rfl⟩:=List.getElem_of_mem ht
 rw [<- hw,e]
 rcases Nat.lt_trichotomy i (idxN st g l) with hlt | heq | hgt
 ·have:=List.not_of_lt_findIdx (p:=leaves g l) (xs:=st) (i:=i) hlt
  rw [hl] at this; cases this
 ·simp only [heq]; exact Int.le_refl _
 ·exact List.pairwise_iff_getElem.mp S.srt _ _ lt hi hgt
section
variable {T:Nat->Nat->Int} {st:List Tri} {g:List Nat} {l:Nat} (N:NearOk T st g l)
include N
theorem mJ:(at5 g (near st g l).2.1=l/\farF st g l=at5 g (near st g l).2.2/\farF st g l≠l)\/(at5 g (near st g l).2.2=l/\farF st g l=at5 g (near st g l).2.1/\farF st g l≠l):=by
 have h:=leaves_iff.mp N.lv
 unfold farF
 rcases h with ⟨h1,h2⟩ | ⟨h1,h2⟩
 ·left
  rw [h1,Nat.add_sub_cancel_left]
  exact⟨rfl,rfl,h2⟩
 ·right
  rw [h2,Nat.add_sub_cancel]
  exact⟨rfl,rfl,h1⟩
theorem zF:farF st g l≠l:=(mJ N).elim (λz=>z.2.2) λz=>z.2.2
theorem far_lv:leaves g (farF st g l) (near st g l)=true:=by
 rw [leaves_iff]
 rcases mJ N with ⟨h1,h2,h3⟩ | ⟨h1,h2,h3⟩
 ·right; rw [h1]; exact⟨Ne.symm h3,h2.symm⟩
 ·left; rw [h1]; exact⟨h2.symm,Ne.symm h3⟩
theorem oA:idxN st g (farF st g l)<=idxN st g l:=Nat.not_lt.mp λh=>by
 have:=List.not_of_lt_findIdx (p:=leaves g (farF st g l)) (xs:=st) (i:=idxN st g l) h
 have e:near st g l=st[idxN st g l]'N.lt:=by
  unfold near
  rw [List.getD_eq_getElem?_getD,List.getElem?_eq_getElem N.lt]; rfl
 rw [<- e,far_lv N] at this
 cases this
theorem tA (h:idxN st g (farF st g l)=idxN st g l):near st g (farF st g l)=near st g l/\farF st g (farF st g l)=l:=by
 have e:near st g (farF st g l)=near st g l:=by unfold near; rw [h]
 refine⟨e,?_⟩
 rw [farF.eq_def,e]
 rcases mJ N with ⟨h1,h2,h3⟩ | ⟨h1,h2,h3⟩
 ·rw [h1,<- h2,Nat.add_sub_cancel]
 ·rw [h1,<- h2,Nat.add_sub_cancel_left]
end
structure MInv (T U:Nat->Nat->Int) (g:List Nat) (H:Nat->Nat->Int):Prop where
 len:g.length=5
 h:HOk g H U
 le:∀a b c d,a < 5->b < 5->c < 5->d < 5->at5 g a=at5 g b->at5 g c=at5 g a->at5 g d≠at5 g a->U a b<=T c d
theorem minv0 {T U:Nat->Nat->Int}(X:Ult T U):MInv T U g0 λzw zw=>0:=⟨rfl,hok0 X,λa b c d ha hb zw zw h zw zw=>by
 rw [g0_ne a ha b hb h,X.low.z]
 exact Int.le_trans (X.low.n _ _) (X.low.l _ _)⟩
theorem MInv.melt {T U:Nat->Nat->Int}(X:Ult T U){st:List Tri}(S:Steps T st){g:List Nat}{H:Nat->Nat->Int}(I:MInv T U g H){l:Nat}(N:NearOk T st g l)(N':NearOk T st g (farF st g l))(hn:near st g l=near st g (farF st g l)) :
  MInv T U (b7 g l (farF st g l)) (kR g H l (farF st g l) (near st g l).1):=by
 have go:∀s e,s < 5->e < 5->at5 g s=l->at5 g e=farF st g l->(near st g l).1=T s e->MInv T U (b7 g l (farF st g l)) (kR g H l (farF st g l) (near st g l).1):=λs e hs he h1 h2 hw=>by
  have hne:at5 g s≠at5 g e:=by rw [h1,h2]; exact Ne.symm (zF N)
  have cut:∀c d,c < 5->d < 5->(at5 g c==at5 g s)≠(at5 g d==at5 g s)->T s e<=T c d:=λc d hc hd h=>by
   rw [h1] at h
   rw [<- hw]; exact N.min c d hc hd h
  have cut':∀c d,c < 5->d < 5->(at5 g c==at5 g e)≠(at5 g d==at5 g e)->T s e<=T c d:=λc d hc hd h=>by
   rw [h2] at h
   rw [<- hw,hn]; exact N'.min c d hc hd h
  have M:Melt T U g s e:=⟨I.len,hs,he,hne,λa b ha hb h h'=>by
   rcases h' with h' | h'
   ·exact I.le a b s e ha hb hs he h h'.symm (λz=>hne (h'.symm.trans z.symm))
   ·rw [X.sy s e]; exact I.le a b e s ha hb he hs h h'.symm (λz=>hne (z.trans h')),cut⟩
  rw [hw,<- h2,<- h1]
  refine⟨by rw [fS]; exact I.len,M.ok X I.h,λa b c d ha hb hc hd hab hca hda=>?_⟩
  rcases M.le X ha hb hab with ⟨x1,x2,x3⟩ | ⟨x1,x2⟩
  ·have hc':=M.same X hc ha hca
   have hd':at5 g d≠at5 g a:=λz=>hda (by show(b7 g _ _).getD d 9=(b7 g _ _).getD a 9; rw [bV (by rw [I.len]; exact hd),bV (by rw [I.len]; exact ha)]; show(if at5 g d=_ then _ else at5 g d)=_; rw [z])
   rcases hc' with hc' | ⟨_,hc'⟩ | ⟨hc',_⟩
   ·exact I.le a b c d ha hb hc hd x1 hc' hd'
   ·exact absurd hc' x3
   ·exact absurd hc' x2
  ·refine Int.le_trans x2 ?_
   have ma:(b7 g (at5 g s) (at5 g e)).getD a 9=at5 g s:=by
    rw [bV (by rw [I.len]; exact ha)]
    rcases x1 with x1 | x1
    ·rw [if_neg (λz=>hne (x1.symm.trans z))]; exact x1
    ·rw [if_pos x1]
   have mc:(b7 g (at5 g s) (at5 g e)).getD c 9=at5 g s:=Eq.trans hca ma
   have md:(b7 g (at5 g s) (at5 g e)).getD d 9≠at5 g s:=λz=>hda (Eq.trans z ma.symm)
   rw [bV (by rw [I.len]; exact hc)] at mc
   rw [bV (by rw [I.len]; exact hd)] at md
   have d2:at5 g d≠at5 g e:=λz=>md (if_pos z)
   rw [if_neg d2] at md
   have md:at5 g d≠at5 g s:=md
   by_cases c2:at5 g c=at5 g e
   ·refine cut' c d hc hd ?_
    rw [c2,beq_self_eq_true,Ne,eq_comm,beq_iff_eq]
    exact d2
   ·rw [if_neg c2] at mc
    have mc:at5 g c=at5 g s:=mc
    refine cut c d hc hd ?_
    rw [mc,beq_self_eq_true,Ne,eq_comm,beq_iff_eq]
    exact md
 obtain⟨h1,h2,h3⟩:=S.at N.mem
 have h4:=Nat.lt_trans h2 h3
 rcases mJ N with ⟨f1,f2,_⟩ | ⟨f1,f2,_⟩
 ·exact go _ _ h4 h3 f1 f2.symm h1
 ·exact go _ _ h3 h4 f1 f2.symm (h1.trans (X.sy _ _))
end
noncomputable def rowF (g:List Nat) (l:Nat):List Nat:=(List.range 5).filter λi=>at5 g i==l
noncomputable def nL (l:List Nat):List Nat:=l.drop (l.length - 1)
noncomputable def zipF (g:List Nat) (fl:Nat->Nat) (l:Nat):List (Nat×Nat):=(nL (rowF g (fl l))++rowF g l).zip (rowF g l)
noncomputable def jI (σ:SS) (zs:List (Nat×Nat)):SS:=zs.foldl (λσ q=>σ.add q.2 [(q.1:Int)]) σ
noncomputable def dP (g:List Nat) (fl:Nat->Nat) (n:Nat):SS:=(List.range n).foldl (λσ l=>jI σ (zipF g fl l)) SS.new
noncomputable def rots (b:List Int):List (List Int):=(List.range b.length).map λp=>b.drop p++b.take (p+1)
noncomputable def a7 (l:List Nat):List Int:=l.map λk:Nat=>(k:Int)
noncomputable def rN (g:List Nat) (fl:Nat->Nat) (k:Nat):List Int:=a7 (rowF g k++rowF g (fl k))
noncomputable def itF (fl:Nat->Nat):Nat->Nat->Nat
 | 0,l=>l
 | j+1,l=>itF fl j (fl l)
noncomputable def chk2 (g:List Nat) (fl:Nat->Nat):Bool:=(List.range 5).all λl=>!g.contains l || (List.range 5).all λj=>!(itF fl j (fl l)==l) || fl (fl l)==l
noncomputable def sF (g:List Nat) (fl:Nat->Nat):Bool:=match (dP g fl 5).cyc with
 | some (some (r0::r))=>(dP g fl 5).fine && (dP g fl 5).roots.isEmpty && decide (0<=r0/\r0 < 5) && fl (fl (at5 g r0.toNat))==at5 g r0.toNat && (rots (rN g fl (at5 g r0.toNat))).contains (r0::r)
 | _=>false
noncomputable def xK:List (List Nat)->List (List Nat)
 | []=>[[]]
 | o::os=>o.flatMap λx=>(xK os).map (x::·)
noncomputable def idem (g:List Nat):Bool:=g.all λx=>at5 g x==x
noncomputable def many (g:List Nat):Bool:=g.any λx=>x != at5 g 0
noncomputable def optsF (g:List Nat):List (List Nat):=(List.range 5).map λl=>if g.contains l then (List.range 5).filter λm=>m != l && g.contains m else [9]
noncomputable def lo (F:List Nat) (l:Nat):Nat:=F.getD l 9
noncomputable def allI:List (List Nat):=(xK (List.replicate 5 (List.range 5))).filter idem
noncomputable def cntL (g:List Nat):Nat:=((List.range 5).filter g.contains).length
noncomputable def sG (g:List Nat):Bool:=!many g || (xK (optsF g)).all λF=>!chk2 g (lo F) || sF g (lo F)
noncomputable def yG (g:List Nat):Bool:=(many g==decide (2<=cntL g)) && (List.range 5).all λk=>(List.range 5).all λo=>!(g.contains k && g.contains o && k != o) || (idem (b7 g k o) && cntL (b7 g k o)+1==cntL g)
noncomputable def ringX (g:List Nat):Bool:=g==[0,1,2,3,4] || sG g
noncomputable def uL (i:Nat):Bool:=((allI.drop (40*i)).take 40).all ringX
theorem ring_id:sG [0,1,2,3,4]=true:=by decide +kernel
theorem ring_0:uL 0=true:=by decide +kernel
theorem ring_1:uL 1=true:=by decide +kernel
theorem ring_2:uL 2=true:=by decide +kernel
theorem ring_3:uL 3=true:=by decide +kernel
theorem ring_4:uL 4=true:=by decide +kernel
theorem allI_len:allI.length<=40*5:=by decide +kernel
theorem parts:∀i < 5,uL i=true
 | 0,_=>ring_0
 | 1,_=>ring_1
 | 2,_=>ring_2
 | 3,_=>ring_3
 | 4,_=>ring_4
 | n+5,h=>absurd h (Nat.not_lt.mpr (Nat.le_add_left ..))
theorem lL {α:Type}{p:α->Bool}{k:Nat}:∀(m:Nat) (l:List α),l.length<=k*m->(∀i < m,((l.drop (k*i)).take k).all p=true)->l.all p=true
 | 0,l,h,_=>by rw [List.eq_nil_of_length_eq_zero (Nat.le_zero.mp h)]; rfl
 | m+1,l,h,c=>by
  rw [<- List.take_append_drop k l,List.all_append,Bool.and_eq_true]
  refine⟨c 0 (Nat.succ_pos m),lL (k:=k) m (l.drop k) ?_ λi hi=>?_⟩
  ·rw [List.length_drop]; exact Nat.sub_le_of_le_add h
  ·rw [List.drop_drop,Nat.add_comm]; exact c (i+1) (Nat.succ_lt_succ hi)
theorem ring_all:allI.all sG=true:=List.all_eq_true.mpr λg hg=>by
 have h:=List.all_eq_true.mp (lL (p:=ringX) 5 allI allI_len parts) g hg
 unfold ringX at h
 rw [Bool.or_eq_true] at h
 rcases h with h | h
 ·rw [eq_of_beq h]; exact ring_id
 ·exact h
theorem sO:(allI.all yG)=true:=by decide +kernel
section
theorem kQ:∀(os:List (List Nat)) (xs:List Nat),xs.length=os.length->(∀(i:Nat) x o,xs[i]?=some x->os[i]?=some o->x∈o)->xs∈xK os
 | [],[],_,_=>List.mem_cons_self ..
 | [],_::_,h,_=>by cases h
 | _::_,[],h,_=>by cases h
 | o::os,x::xs,h,hx=>List.mem_flatMap.mpr ⟨x,hx 0 x o rfl rfl,List.mem_map.mpr ⟨xs,kQ os xs (Nat.succ.inj h) λi y p h1 h2=>hx (i+1) y p h1 h2,rfl⟩⟩
structure GOk (g:List Nat):Prop where
 len:g.length=5
 lt:∀x∈g,x < 5
 idm:idem g=true
theorem GOk.mem {g:List Nat}(h:GOk g):g∈allI:=List.mem_filter.mpr ⟨kQ _ _ h.len λi x o h1 h2=>by
 have h3:=List.mem_of_getElem? h2
 rw [List.mem_replicate] at h3
 rw [h3.2]
 exact List.mem_range.mpr (h.lt x (List.mem_of_getElem? h1)),h.idm⟩
theorem fY {g:List Nat}(h:g.length=5){i:Nat}(hi:i < 5):at5 g i∈g:=by
 unfold at5
 rw [List.getD_eq_getElem?_getD,List.getElem?_eq_getElem (by rw [h]; exact hi)]
 exact List.getElem_mem _
theorem qY {g:List Nat}(h:g.length=5){x:Nat}(hx:x∈g):∃i,i < 5/\at5 g i=x:=by
 obtain⟨i,hi,rfl⟩:=List.getElem_of_mem hx
 refine⟨i,by rw [<- h]; exact hi,?_⟩
 unfold at5
 rw [List.getD_eq_getElem?_getD,List.getElem?_eq_getElem hi]; rfl
theorem yF {g:List Nat}{o x:Nat}(hk:k < 5)(h:∀x∈g,x < 5)(hx:x∈b7 g k o):x < 5:=by
 obtain⟨y,hy,rfl⟩:=List.mem_map.mp hx
 split
 ·exact hk
 ·exact h y hy
theorem GOk.melt {g:List Nat}(h:GOk g){o:Nat}(hk:k∈g)(ho:o∈g)(hne:k≠o):GOk (b7 g k o)/\cntL (b7 g k o)+1=cntL g:=by
 have h1:=List.all_eq_true.mp sO g h.mem
 unfold yG at h1
 rw [Bool.and_eq_true,List.all_eq_true] at h1
 have h2:=h1.2 k (List.mem_range.mpr (h.lt k hk))
 rw [List.all_eq_true] at h2
 have h3:=h2 o (List.mem_range.mpr (h.lt o ho))
 rw [List.contains_iff_mem.mpr hk,List.contains_iff_mem.mpr ho,bne_iff_ne.mpr hne] at h3
 have h3:(idem (b7 g k o) && cntL (b7 g k o)+1==cntL g)=true:=h3
 rw [Bool.and_eq_true,beq_iff_eq] at h3
 exact⟨⟨by rw [fS]; exact h.len,λx hx=>yF (h.lt k hk) h.lt hx,h3.1⟩,h3.2⟩
theorem GOk.many {g:List Nat}(h:GOk g):many g=decide (2<=cntL g):=by
 have h1:=List.all_eq_true.mp sO g h.mem
 unfold yG at h1
 rw [Bool.and_eq_true,beq_iff_eq] at h1
 exact h1.1
theorem pH {g:List Nat}(h5:g.length=5)(h:many g=false){i:Nat}(hi:i < 5):at5 g i=at5 g 0:=by
 unfold Mine.many at h
 rw [List.any_eq_false] at h
 have:=h _ (fY h5 hi)
 rw [bne_iff_ne] at this
 exact Decidable.not_not.mp this
theorem zipF_eq {g:List Nat}(h5:g.length=5){f f':Nat->Nat}{l:Nat}(h:l∈g->f l=f' l):zipF g f l=zipF g f' l:=by
 unfold zipF
 by_cases hl:l∈g
 ·rw [h hl]
 ·have e:rowF g l=[]:=by
   unfold rowF
   rw [List.filter_eq_nil_iff]
   intro i hi z
   rw [beq_iff_eq] at z
   exact hl (z ▸ fY h5 (List.mem_range.mp hi))
  rw [e,List.zip_nil_right,List.zip_nil_right]
theorem sC {g:List Nat}(h5:g.length=5){f f':Nat->Nat}(h:∀l,l∈g->f l=f' l):∀n,dP g f n=dP g f' n
 | 0=>rfl
 | n+1=>by
  unfold dP
  rw [List.range_succ,List.foldl_append,List.foldl_append]
  show jI (dP g f n) (zipF g f n)=jI (dP g f' n) (zipF g f' n)
  rw [sC h5 h n,zipF_eq h5 (h n)]
structure FarOk (g:List Nat) (fl:Nat->Nat):Prop where
 mem:∀l∈g,fl l∈g
 ne:∀l∈g,fl l≠l
 two:∀l∈g,∀j,itF fl j (fl l)=l->fl (fl l)=l
structure RingF (g:List Nat) (fl:Nat->Nat) (r0:Nat) (r:List Int):Prop where
 cyc:(dP g fl 5).cyc=some (some ((r0:Int)::r))
 fine:(dP g fl 5).fine=true
 roots:(dP g fl 5).roots=[]
 lt:r0 < 5
 back:fl (fl (at5 g r0))=at5 g r0
 rot:(rots (rN g fl (at5 g r0))).contains ((r0:Int)::r)=true
theorem itF_eq {g:List Nat}{f f':Nat->Nat}(hm:∀l∈g,f l∈g)(h:∀l∈g,f l=f' l):∀j l,l∈g->itF f j l=itF f' j l
 | 0,_,_=>rfl
 | j+1,l,hl=>by
  show itF f j (f l)=itF f' j (f' l)
  rw [<- h l hl]
  exact itF_eq hm h j _ (hm l hl)
theorem xG {g:List Nat}(G:GOk g)(hm:many g=true){fl:Nat->Nat}(F:FarOk g fl):∃r0 r,RingF g fl r0 r:=by
 have h1:=List.all_eq_true.mp ring_all g G.mem
 unfold sG at h1
 rw [hm] at h1
 have h1:(xK (optsF g)).all (λF=>!chk2 g (lo F) || sF g (lo F))=true:=h1
 rw [List.all_eq_true] at h1
 have hF:∀l,l∈g->fl l=lo ((List.range 5).map λl=>if g.contains l=true then fl l else 9) l:=λl hl=>by
  have h5:=G.lt l hl
  unfold lo
  rw [List.getD_eq_getElem?_getD,List.getElem?_map,List.getElem?_range h5]
  show _=if g.contains l=true then fl l else 9
  rw [if_pos (List.contains_iff_mem.mpr hl)]
 have h2:=h1 ((List.range 5).map λl=>if g.contains l=true then fl l else 9) (kQ _ _ (by unfold optsF; rw [List.length_map,List.length_map]) λi x o e1 e2=>by
  unfold optsF at e2
  rw [List.getElem?_map] at e1 e2
  cases hr:(List.range 5)[i]? with
  | none=>rw [hr] at e1; cases e1
  | some k =>
   rw [hr] at e1 e2
   cases e1; cases e2
   dsimp only
   by_cases hk:g.contains k=true
   ·rw [if_pos hk,if_pos hk,List.mem_filter,Bool.and_eq_true,bne_iff_ne,List.contains_iff_mem]
    have hk:=List.contains_iff_mem.mp hk
    exact⟨List.mem_range.mpr (G.lt _ (F.mem k hk)),F.ne k hk,F.mem k hk⟩
   ·rw [if_neg hk,if_neg hk]; exact List.mem_cons_self ..)
 generalize hFF:((List.range 5).map λl=>if g.contains l=true then fl l else 9)=FF at hF h2
 have h3:chk2 g (lo FF)=true:=by
  unfold chk2
  rw [List.all_eq_true]
  intro l hl
  cases hg:g.contains l with
  | false=>rfl
  | true =>
   have hl:=List.contains_iff_mem.mp hg
   show List.all _ _=true
   rw [List.all_eq_true]
   intro j hj
   rw [<- hF l hl,<- hF _ (F.mem l hl),<- itF_eq F.mem hF j _ (F.mem l hl)]
   cases hj:itF fl j (fl l)==l with
   | false=>rfl
   | true=>rw [F.two l hl j (eq_of_beq hj),beq_self_eq_true]; rfl
 rw [h3] at h2
 have h2:sF g (lo FF)=true:=h2
 unfold sF at h2
 have hs:=sC G.len hF 5
 rw [<- hs] at h2
 split at h2
 ·rename_i r0 r hc
  simp only [Bool.and_eq_true,decide_eq_true_eq,List.isEmpty_iff,beq_iff_eq] at h2
  obtain⟨⟨⟨⟨a1,a2⟩,a3,a4⟩,a5⟩,a6⟩:=h2
  obtain⟨z,rfl⟩:=Int.eq_ofNat_of_zero_le a3
  have hz:z < 5:=Int.ofNat_lt.mp a4
  have hz0:at5 g z∈g:=fY G.len hz
  have a5:lo FF (lo FF (at5 g z))=at5 g z:=a5
  have a6:(rots (rN g (lo FF) (at5 g z))).contains ((z:Int)::r)=true:=a6
  rw [<- hF _ hz0,<- hF _ (F.mem _ hz0)] at a5
  unfold rN at a6
  rw [<- hF _ hz0] at a6
  exact⟨z,r,hc,a1,a2,hz,a5,a6⟩
 ·cases h2
theorem other {g:List Nat}(h5:g.length=5)(hm:many g=true)(l:Nat):∃i,i < 5/\at5 g i≠l:=by
 by_cases h:at5 g 0=l
 ·unfold Mine.many at hm
  obtain⟨x,hx,hn⟩:=List.any_eq_true.mp hm
  obtain⟨i,hi,rfl⟩:=qY h5 hx
  exact⟨i,hi,by rw [<- h]; exact bne_iff_ne.mp hn⟩
 ·exact⟨0,by decide,h⟩
section
variable {T U:Nat->Nat->Int} (X:Ult T U) {st:List Tri} (S:Steps T st) {g:List Nat} (G:GOk g) (hm:many g=true)
include X S G hm
theorem eU {l:Nat}(hl:l∈g):NearOk T st g l:=by
 obtain⟨i,hi,rfl⟩:=qY G.len hl
 obtain⟨j,hj,hn⟩:=other G.len hm (at5 g i)
 exact near_ok S X.sy hi hj rfl hn
theorem lA {l:Nat}(hl:l∈g):farF st g l∈g:=by
 have N:=eU X S G hm hl
 obtain⟨h1,h2,h3⟩:=S.at N.mem
 rcases mJ N with ⟨_,f,_⟩ | ⟨_,f,_⟩
 ·rw [f]; exact fY G.len h3
 ·rw [f]; exact fY G.len (Nat.lt_trans h2 h3)
theorem qA:∀(j:Nat) {l:Nat},l∈g->idxN st g (itF (farF st g) j l)<=idxN st g l
 | 0,_,_=>Nat.le_refl _
 | j+1,l,hl=>Nat.le_trans (qA j (lA X S G hm hl)) (oA (eU X S G hm hl))
theorem far_ok:FarOk g (farF st g):=⟨λl hl=>lA X S G hm hl,λl hl=>zF (eU X S G hm hl),λl hl j h=>by
 have N:=eU X S G hm hl
 have h1:=qA X S G hm j (lA X S G hm hl)
 rw [h] at h1
 exact(tA N (Nat.le_antisymm (oA N) h1)).2⟩
theorem wI {H:Nat->Nat->Int}(I:MInv T U g H):∃r0 r,RingF g (farF st g) r0 r/\near st g (at5 g r0)=near st g (farF st g (at5 g r0)) ∧
  MInv T U (b7 g (at5 g r0) (farF st g (at5 g r0))) (kR g H (at5 g r0) (farF st g (at5 g r0)) (near st g (at5 g r0)).1)/\GOk (b7 g (at5 g r0) (farF st g (at5 g r0)))/\cntL (b7 g (at5 g r0) (farF st g (at5 g r0)))+1=cntL g:=by
 obtain⟨r0,r,R⟩:=xG G hm (far_ok X S G hm)
 have hk:=fY G.len R.lt
 have hf:=lA X S G hm hk
 have N:=eU X S G hm hk
 have N':=eU X S G hm hf
 have e:idxN st g (farF st g (at5 g r0))=idxN st g (at5 g r0):=by
  refine Nat.le_antisymm (oA N) ?_
  have:=oA N'
  rw [R.back] at this
  exact this
 have hn:=(tA N e).1
 obtain⟨g1,g2⟩:=G.melt hk hf (Ne.symm (zF N))
 exact⟨r0,r,R,hn.symm,I.melt X S N N' hn.symm,g1,g2⟩
end
theorem gok0:GOk g0:=⟨rfl,by decide +kernel,rfl⟩
theorem cnt0:cntL g0=5:=by decide +kernel
theorem u6 {T U:Nat->Nat->Int}{g:List Nat}{H:Nat->Nat->Int}(G:GOk g)(hc:cntL g=1)(I:MInv T U g H){a b:Nat}(ha:a < 5)(hb:b < 5):H a b=U a b:=by
 have hm:many g=false:=by rw [G.many,hc]; rfl
 exact I.h a b ha hb ((pH G.len hm ha).trans (pH G.len hm hb).symm)
end
set_option backward.match.sparseCases false
noncomputable def chN (p d:Nat):Nat:=(if d=0 then 97 else if d=1 then 65 else 49)+p
noncomputable def cT (n:Nat):List Nat:=[chN 0 (n % 3),chN 1 (n / 3 % 3),chN 2 (n / 9 % 3)]
noncomputable def tJ (a b:Nat):Option D:=cB (Ev.at T0 12) [] 30 ⟨(fnOf "_law_apart").2.1,[("one",(.str (S (cT a)),0)),("other",(.str (S (cT b)),0))]⟩ (fnOf "_law_apart").1
noncomputable def prN (x y:Nat):Int:=if x=y then 0 else if x=2\/y=2 then 2 else 1
noncomputable def apF (a b:Nat):Int:=prN (a % 3) (b % 3)+prN (a / 3 % 3) (b / 3 % 3)+prN (a / 9 % 3) (b / 9 % 3)
noncomputable def isI (d:Option D) (z:Int):Bool:=match d with
 | some (.int i)=>i==z
 | _=>false
noncomputable def tK (i:Nat):Bool:=(((List.range 27).drop (9*i)).take 9).all λa=>(List.range 27).all λb=>isI (tJ a b) (apF a b)
theorem apart_0:tK 0=true:=by decide +kernel
theorem apart_1:tK 1=true:=by decide +kernel
theorem apart_2:tK 2=true:=by decide +kernel
theorem apartsP:∀i < 3,tK i=true
 | 0,_=>apart_0
 | 1,_=>apart_1
 | 2,_=>apart_2
 | n+3,h=>absurd h (Nat.not_lt.mpr (Nat.le_add_left ..))
theorem AG:((List.range 27).all λa=>(List.range 27).all λb=>isI (tJ a b) (apF a b))=true:=lL (k:=9) 3 (List.range 27) (by decide) apartsP
theorem dig {z:Int}{d:Nat}(hd:d≠0)(e:27=k*3*d):(z / (d:Int)) % 3=(((z % 27).toNat / d % 3:Nat):Int):=by
 have h0:((z % 27).toNat:Int)=z % 27:=Int.toNat_of_nonneg (Int.emod_nonneg _ (by decide))
 have h1:(((z % 27).toNat / d % 3:Nat):Int)=((z % 27).toNat:Int) / (d:Int) % 3:=rfl
 have h2:z=z % 27+(k:Int)*(z / 27)*3*(d:Int):=by
  have h3:(27:Int)=(k:Int)*3*(d:Int):=Int.ofNat_inj.mpr e
  have h4:(k:Int)*(z / 27)*3*(d:Int)=(k:Int)*3*(d:Int)*(z / 27):=by
   rw [Int.mul_right_comm _ (z / 27),Int.mul_right_comm _ (z / 27)]
  rw [h4,<- h3]
  exact(Int.emod_add_mul_ediv z 27).symm
 rw [h1,h0]
 generalize hr:z % 27=r at h2
 generalize z / 27=q at h2
 rw [h2,Int.add_mul_ediv_right _ _ (Int.ofNat_ne_zero.mpr hd),Int.add_mul_emod_self_right]
theorem wG (z:Int):cB (Ev.at T0 12) [] 30 ⟨(fnOf "_law_word").2.1,[("number",(.int z,0))]⟩ (fnOf "_law_word").1=some (.str (S (cT (z.fmod 27).toNat))):=by
 have f:∀k:Nat,z.fmod (k+1:Nat)=z % (k+1:Nat):=λk=>Int.fmod_eq_emod_of_nonneg _ (Int.natCast_nonneg _)
 have e0:z.fmod 27=z % 27:=f 26
 have e1:z.fmod 3=(((z.fmod 27).toNat % 3:Nat):Int):=by
  rw [e0,show z.fmod 3=z % 3 from f 2,<- Nat.div_one (z % 27).toNat,<- dig (k:=9) (d:=1) (by decide) (by decide)]
  exact congrArg (· % 3) (Int.ediv_one z).symm
 have e2:(z.fdiv 3).fmod 3=(((z.fmod 27).toNat / 3 % 3:Nat):Int):=by
  rw [e0,Int.fdiv_eq_ediv_of_nonneg _ (by decide),Int.fmod_eq_emod_of_nonneg _ (by decide)]
  exact dig (k:=3) (d:=3) (by decide) (by decide)
 have e3:(z.fdiv 9).fmod 3=(((z.fmod 27).toNat / 9 % 3:Nat):Int):=by
  rw [e0,Int.fdiv_eq_ediv_of_nonneg _ (by decide),Int.fmod_eq_emod_of_nonneg _ (by decide)]
  exact dig (k:=1) (d:=9) (by decide) (by decide)
 have b1:(z.fmod 27).toNat % 3 < 3:=Nat.mod_lt _ (by decide)
 have b2:(z.fmod 27).toNat / 3 % 3 < 3:=Nat.mod_lt _ (by decide)
 have b3:(z.fmod 27).toNat / 9 % 3 < 3:=Nat.mod_lt _ (by decide)
 unfold cT
 generalize (z.fmod 27).toNat % 3=i,(z.fmod 27).toNat / 3 % 3=j,(z.fmod 27).toNat / 9 % 3=k at e1 e2 e3 b1 b2 b3 ⊢
 have h0:∀i < 3,idxD (.str "aA1") ((i:Nat):Int)=some (.str (S [chN 0 i])):=λi=>lt3c (P:=λi=>idxD (.str "aA1") ((i:Nat):Int)=some (.str (S [chN 0 i]))) rfl rfl rfl i
 have h1:∀i < 3,idxD (.str "bB2") ((i:Nat):Int)=some (.str (S [chN 1 i])):=λi=>lt3c (P:=λi=>idxD (.str "bB2") ((i:Nat):Int)=some (.str (S [chN 1 i]))) rfl rfl rfl i
 have h2:∀i < 3,idxD (.str "cC3") ((i:Nat):Int)=some (.str (S [chN 2 i])):=λi=>lt3c (P:=λi=>idxD (.str "cC3") ((i:Nat):Int)=some (.str (S [chN 2 i]))) rfl rfl rfl i
 conv in (fnOf "_law_word").1=>whnf
 refine iY rfl (lT (k:=0) (b6 (a:=.str (S [chN 0 i,chN 1 j])) (ka:=0) (b:=.str (S [chN 2 k])) (kb:=0) rfl (b6 (a:=.str (S [chN 0 i])) (ka:=0) (b:=.str (S [chN 1 j])) (kb:=0) rfl (r_ix (z:=(i:Int)) rfl rfl (r_str rfl) (b6 rfl (aC rfl rfl rfl) (bQ rfl) (by rw [<- e1]; rfl)) (h0 i b1)) (r_ix (z:=(j:Int)) rfl rfl (r_str rfl) (b6 (a:=.int (z.fdiv 3)) rfl (b6 rfl (aC rfl rfl rfl) (bQ rfl) rfl) (bQ rfl) (by rw [<- e2]; rfl)) (h1 j b2)) rfl) (r_ix (z:=(k:Int)) rfl rfl (r_str rfl) (b6 (a:=.int (z.fdiv 9)) rfl (b6 rfl (aC rfl rfl rfl) (bQ rfl) rfl) (bQ rfl) (by rw [<- e3]; rfl)) (h2 k b3)) rfl))
noncomputable def tabL (T:Nat->Nat->Int):List (List Int):=(List.range 5).map λi=>(List.range 5).map λj=>T i j
noncomputable def dF (xss:List (List Int)):D:=.list (xss.map yW)
noncomputable def byRun (T:Nat->Nat->Int) (m:Nat):Option D:=cB (Ev.at T0 12) ["fresh"] 60 ⟨(fnOf "_law_by").2.1,[("table",(dF (tabL T),0)),("middle",(.int (m:Int),0))]⟩ (fnOf "_law_by").1
theorem by_eval (T:Nat->Nat->Int):∀m < 5,byRun T m=some (dF (tabL (byF T m)))
 | 0,_=>by kernel_rfl
 | 1,_=>by kernel_rfl
 | 2,_=>by kernel_rfl
 | 3,_=>by kernel_rfl
 | 4,_=>by kernel_rfl
 | n+5,h=>absurd h (Nat.not_lt.mpr (Nat.le_add_left ..))
noncomputable abbrev natD (l:List Nat):D:=.list ((a7 l).map .int)
theorem cZ {l:List Nat}{i:Nat}(h:i < l.length):idxD (natD l) (i:Int)=some (.int ((l.getD i 9:Nat):Int)):=by
 refine gZ ?_
 unfold a7
 rw [List.getElem?_map,List.getElem?_map,List.getD_eq_getElem?_getD,List.getElem?_eq_getElem h]; rfl
noncomputable def rowI (is:List Int) (l:Int):List Int:=a7 ((List.range 5).filter λi=>is.getD i 9==l)
theorem row_is (g:List Nat)(l:Nat):rowI (a7 g) (l:Int)=a7 (rowF g l):=by
 unfold rowI rowF at5
 congr 1
 refine List.filter_congr λi zw=>?_
 unfold a7
 rw [List.getD_eq_getElem?_getD,List.getD_eq_getElem?_getD,List.getElem?_map,Bool.eq_iff_iff,beq_iff_eq,beq_iff_eq]
 cases g[i]? with
 | none=>exact⟨λh=>Int.ofNat_inj.mp h,λh=>Int.ofNat_inj.mpr h⟩
 | some x=>exact⟨λh=>Int.ofNat_inj.mp h,λh=>Int.ofNat_inj.mpr h⟩
theorem row_eval (is:List Int)(h5:is.length=5)(l:Int):cB (Ev.at T0 12) [] 30 ⟨(fnOf "_law_row").2.1,[("groups",(.list (is.map .int),0)),("label",(.int l,0))]⟩ (fnOf "_law_row").1=some (.list ((rowI is l).map .int)):=by
 have e:(rowI is l).map PyData.int=((a7 (List.range 5)).map λk=>if (is.getD k.toNat 9==l)=true then [PyData.int k] else []).flatten:=by
  unfold rowI a7
  rw [List.map_map,List.map_map,<- eW]; rfl
 conv in (fnOf "_law_row").1=>whnf
 rw [e]
 refine iY rfl (lT (k:=0) (gT rfl (cA (items:=(a7 (List.range 5)).map .int) rfl ⟨rfl,rfl,rfl,rfl⟩ (eV rfl rfl (bQ rfl) rfl) (cL λk hk=>sQ (cU (a:=.int (is.getD k.toNat 9)) (b:=.int l) rfl (r_ix rfl rfl (aC rfl rfl (aX (aV rfl rfl) rfl)) (aC rfl rfl bS) ?_) (aC rfl rfl (aX (aV rfl rfl) rfl)) rfl) (aC rfl rfl bS)) ?_)))
 ·unfold a7 at hk
  obtain⟨i,hi,rfl⟩:=List.mem_map.mp hk
  have hi:=List.mem_range.mp hi
  refine gZ (d:=.int (is.getD i 9)) ?_
  rw [List.getElem?_map,List.getD_eq_getElem?_getD,List.getElem?_eq_getElem (by rw [h5]; exact hi)]; rfl
 ·rw [<- e,List.length_map]
  unfold rowI a7
  rw [List.length_map]
  exact Nat.le_trans (List.length_filter_le _ _) (by decide)
section
noncomputable abbrev wordEnt:Ent:=("_law_word",one1 (onI λz=>some (.str (S (cT (z.fmod 27).toNat)))))
theorem wordE_ok (G:Gr1 g P)(hn:1<=n):EntOk g (n+1) wordEnt:=by
 have hK:(K1 P).lookup 171=some _:=rfl
 rw [<- G.k] at hK
 refine⟨.ref 171,.fn (by rw [G.k]; rfl) hK,λds d h=>nF (P:=λds=>aZ g (n+1) (.ref 171) ds 0 d 0) h λa h=>cH (P:=λa=>aZ g (n+1) (.ref 171) [a] 0 d 0) h λz h=>sm (P:=λd=>aZ g (n+1) (.ref 171) [.int z] 0 d 0) h ?_⟩
 exact gG (params:=["number"]) (body:=(fnOf "_law_word").1) hK ⟨rfl,rfl,rfl,rfl,rfl,rfl⟩ rfl (bL g.X (by rw [G.k]; rfl)) (fB λzw=>rfl) rfl rfl rfl rfl (d6 (owns:=[]) G.names G.list (dH hn G.names fR 12) 30 (wG z)).r
noncomputable def rowC (is:List Int) (l:Int):Option D:=if is.length=5 then some (.list ((rowI is l).map .int)) else none
noncomputable abbrev rowEnt:Ent:=("_law_row",one2 (λzw=>none) λa b=>lsI (λis=>onI (rowC is) b) a)
theorem rowE_ok (G:Gr1 g P)(hn:1<=n):EntOk g (n+1) rowEnt:=by
 have hK:(K1 P).lookup 200=some _:=rfl
 rw [<- G.k] at hK
 refine⟨.ref 200,.fn (by rw [G.k]; rfl) hK,λds d h=>kN (P:=λds=>aZ g (n+1) (.ref 200) ds 0 d 0) h (λzw h=>no h) λa b h=>lsI_el (P:=λa=>aZ g (n+1) (.ref 200) [a,b] 0 d 0) h λis h=>cH (P:=λb=>aZ g (n+1) (.ref 200) [.list (is.map .int),b] 0 d 0) h λl h=>sm (P:=λd=>aZ g (n+1) (.ref 200) [.list (is.map .int),.int l] 0 d 0) (gd h).2 ?_⟩
 exact gG (params:=["groups","label"]) (body:=(fnOf "_law_row").1) hK ⟨rfl,rfl,rfl,rfl,rfl,rfl⟩ rfl (bL g.X (by rw [G.k]; rfl)) (jJ λzw zw=>rfl) rfl rfl rfl rfl (d6 (owns:=[]) G.names G.list (dH hn G.names fR 12) 30 (row_eval is (gd h).1 l)).r
theorem isI_of {d:Option D}{z:Int}(h:isI d z=true):d=some (.int z):=by
 cases d with
 | none=>cases h
 | some d=>cases d <;> first | (cases eq_of_beq h; rfl) | cases h
theorem wA (G:Gr1 g P)(hn:1<=n){a b:Nat}(ha:a < 27)(hb:b < 27):aZ g (n+1) (.ref 178) [.str (S (cT a)),.str (S (cT b))] 0 (.int (apF a b)) 0:=by
 have hK:(K1 P).lookup 178=some _:=rfl
 rw [<- G.k] at hK
 exact gG (params:=["one","other"]) (body:=(fnOf "_law_apart").1) hK ⟨rfl,rfl,rfl,rfl,rfl,rfl⟩ rfl (bL g.X (by rw [G.k]; rfl)) (jJ λzw zw=>rfl) rfl rfl rfl rfl (d6 (owns:=[]) G.names G.list (dH hn G.names fR 12) 30 (isI_of (List.all_eq_true.mp (List.all_eq_true.mp AG a (List.mem_range.mpr ha)) b (List.mem_range.mpr hb)))).r
theorem by_call (G:Gr1 g P)(hn:1<=n)(T:Nat->Nat->Int){m:Nat}(hm:m < 5):aZ g (n+1) (.ref 210) [dF (tabL T),.int (m:Int)] 0 (dF (tabL (byF T m))) 0:=by
 have hK:(K1 P).lookup 210=some _:=rfl
 rw [<- G.k] at hK
 exact gG (params:=["table","middle"]) (body:=(fnOf "_law_by").1) hK ⟨rfl,rfl,rfl,rfl,rfl,rfl⟩ rfl (bL g.X (by rw [G.k]; rfl)) (jJ λzw zw=>rfl) rfl rfl rfl rfl (d6 (owns:=["fresh"]) G.names G.list (dH hn G.names fR 12) 60 (by_eval T m hm)).r
end
noncomputable def levChk:Bool:=(List.range 27).all λa=>(List.range 27).all λb=>levF (cT a) (cT b) 9==apF a b
theorem lev_all:levChk=true:=by decide +kernel
theorem lev_is {a b:Nat}(ha:a < 27)(hb:b < 27):levF (cT a) (cT b) 9=apF a b :=
 eq_of_beq (List.all_eq_true.mp (List.all_eq_true.mp lev_all a (List.mem_range.mpr ha)) b (List.mem_range.mpr hb))
theorem qV (x y:Nat):prN x y=prN y x:=by
 unfold prN
 by_cases h:x=y
 ·rw [if_pos h,if_pos h.symm]
 ·rw [if_neg h,if_neg (Ne.symm h)]
  simp only [or_comm]
theorem AH (a b:Nat):apF a b=apF b a:=by
 unfold apF
 rw [qV (a % 3),qV (a / 3 % 3),qV (a / 9 % 3)]
theorem xM (x y:Nat):0<=prN x y:=by
 unfold prN
 repeat' split
 all_goals decide
theorem apF_nn (a b:Nat):0<=apF a b:=Int.add_nonneg (Int.add_nonneg (xM ..) (xM ..)) (xM ..)
theorem apF_z (a:Nat):apF a a=0:=by
 unfold apF prN
 rw [if_pos rfl,if_pos rfl,if_pos rfl]; rfl
set_option backward.match.sparseCases true
set_option backward.match.sparseCases false
theorem Run.growN {W N:Avoid}(r:Run c O M W V s)(k:Keeps s s')(hn:∀b,N b->s.heap.get? b=none)(ha:Alloc N s'):Run c (λb=>O b\/(W b\/N b)) M (λb=>W b\/N b) V s' :=
 r.eff (W':=λb=>W b\/N b) (.of_keeps k) (λzw h=>.inl h) (λb hb=>hb.imp id (hn b)) λb hb=>by
  rcases hb with hb | hb
  ·exact r.act.aO.keeps k b (r.wo b hb)
  ·exact ha b hb
noncomputable def NestJ (x0:List Int) (O':Avoid) (Z:Addr) (i:Nat) (vs:List Value) (h:Heap):Prop:=∃bs:List Addr,vs=bs.map Value.ref/\bs.length=i/\bs.Nodup/\∀b∈bs,Ints h b x0/\¬O' b
theorem jZ {b:Addr}{x0:List Int}(I:Ints h b x0)(k:∀c us n,h.get? b=some { cls:=c,data:=.seq us n }->h'.get? b=some { cls:=c,data:=.seq us n }):Ints h' b x0:=by
 obtain⟨vs,n,h1,h2,h3⟩:=I
 obtain⟨ys,e1,e2⟩:=cG h3
 refine⟨vs,n,k _ _ _ h1,h2,?_⟩
 rw [e1,<- e2]; exact bH ys
theorem Run.compNest {W:Avoid}(r:Run c O No W V s){px:Pos}{scope:Scope}{items:List D}{x0:List Int}(hk:scope.kind=.function)(ok:bW ⟨V.sc,[]⟩ scope.names=true)(hi:bR scope.names [x]=true)(I:IterS c.g c.n ⟨V.sc,[]⟩ false iter items)(hs:dE iter=true)(hx:∀V',EvF c.g c.n V' elt (x0.map .int))(hz:items.length<=100)
  (q:∀a bs s',Keeps s s'->Nest s'.heap a bs (List.replicate items.length x0)->(∀b∈a::bs,s.heap.get? b=none)->Run c O No W V s'->Q (.ref a) s'):wpAny c.g.M c.Ar (eval (.ListComp elt [⟨.Name x px,iter,[],0⟩] scope cp) c.env) Q E s:=by
 rw [eval_ListComp]
 have hcap:cap=100000:=rfl
 have hline:=bI
 have eo1:EnvOk (λb=>∃o,s.heap.get? b=some o) No ⟨V.sc,[]⟩ c.env s.heap:=⟨r.act.eo.kind,r.act.eo.gl,r.act.eo.bl,r.act.eo.sc,r.act.eo.apart,λy d k hy=>by cases hy⟩
 refine mM (NestJ x0) (g:=c.g) (n:=c.n) (use:=none) (V:=⟨V.sc,[]⟩) (O:=λb=>∃o,s.heap.get? b=some o) (M:=No) (tt:=false) (items:=items) (xs:=[x]) r.rm (λit Z env'=>jV ..) (bU hs c.env) hk ok (I _ _) ⟨_,_,rfl⟩ rfl hi
  (λO' Z i vs h h' k J=>?_) (λO' Z h=>⟨[],rfl,rfl,.nil,λzw h=>by cases h⟩) (λO' P env' Z pl i d hd=>⟨_,true,rfl,y6,λzw=>?_,λh=>by cases h⟩) r.act.up (λb h=>h) (λzw h=>h.elim) eo1 λO' Z C t' m vs hO hZ k hm hC hZn acc J=>?_
 ·obtain⟨bs,e1,e2,e3,e4⟩:=J
  exact⟨bs,e1,e2,e3,λb hb=>⟨jZ (e4 b hb).1 λc us n=>k b c us n (e4 b hb).2,(e4 b hb).2⟩⟩
 ·have hlt:i < items.length:=(List.getElem?_eq_some_iff.mp hd).1
  intro t vs E' Q' u aO aM eo fo acc J q'
  obtain⟨bs,e1,e2,e3,e4⟩:=J
  refine wpAny_bind (wpAny_mono (hx _ O' env' c.Ar t _ u r.rm aO eo) (λv t1 hv=>wpAny_bind ?_) λzw zw z=>z)
  obtain⟨k1,l,rfl,hnew,rd⟩:=hv
  obtain⟨m,hZ⟩:=acc
  have hZ1:=aA k1 _ _ hZ
  have hvl:(#[]++vs.toArray:Array Value).size=i:=by rw [Array.size_append,e1,List.size_toArray,List.size_toArray,List.length_map,e2]; exact Nat.zero_add i
  refine append_at (prog:=c.g.prog) (w:=c.g.w) hZ1 (λh' hs he=>wpAny_pure ?_) (by rw [hvl]; omega)
  have ch:Chg (λb=>b=Z) t1 { t1 with heap:=h' }:=⟨⟨h',t1.toks,rfl⟩,λb o hb e=>hs.extBut b o hb e⟩
  have kd:∀b,b=Z->∃o,t1.heap.get? b=some o/\isFS o=true:=λb hb=>by subst hb; exact⟨_,hZ1,rfl⟩
  have lv:∀b,b=Z->∃o,({ t1 with heap:=h' }:Shared).heap.get? b=some o:=λb hb=>by subst hb; exact⟨_,he⟩
  have lO:¬O' l:=λz=>by obtain⟨o,e⟩:=aO l z; rw [hnew] at e; cases e
  have neZ:∀b,¬O' b->b≠Z:=λb hb z=>hb (z ▸ pl.o _ pl.z)
  refine q' _ [.ref l] (Chg.trans (Chg.of_keeps k1) (ch.mono λb hb=>hb ▸ pl.z)) ⟨m+1,by simpa using he⟩ ⟨bs++[l],by rw [e1,List.map_append]; rfl,by rw [List.length_append,e2]; rfl,?_,λb hb=>?_⟩ ((eo.keeps (aA k1)).chgW ch (λb hb=>hb ▸ pl.o _ pl.z) kd) ((fo.keeps (aA k1)).chgW ch kd)
   (ch.up (u.keeps k1) λb o e z=>pl.g b o e (z ▸ pl.z)) (ch.alloc (aO.keeps k1) λb zw hb=>lv b hb) (ch.alloc (aM.keeps k1) λb zw hb=>lv b hb)
  ·refine List.nodup_append.mpr ⟨e3,by simp,λb hb y hy=>?_⟩
   have hy:y=l:=by simpa using hy
   rw [hy]
   exact λz=>by
    obtain⟨o,e⟩:=(e4 b hb).1.old
    rw [z,hnew] at e; cases e
  ·rcases List.mem_append.mp hb with hb | hb
   ·exact⟨jZ (e4 b hb).1 λcc us n e=>hs.extBut b _ (neZ b (e4 b hb).2) (aA k1 _ _ e),(e4 b hb).2⟩
   ·have hb:b=l:=by simpa using hb
    subst hb
    exact⟨jZ (vC rd) λcc us n e=>hs.extBut b _ (neZ b lO) e,lO⟩
 ·refine⟨m,hm,λh' hs'=>?_⟩
  obtain⟨bs,e1,e2,e3,e4⟩:=J
  have kk:=gE k hC hs'
  obtain⟨n',hz'⟩:=acc
  have hz2:h'.get? Z=_:=hs'.extBut Z _ (dT hm hz') hz'
  refine q Z bs _ kk ⟨⟨n',by rw [e1] at hz2; exact hz2⟩,λj b xs hb hxs=>?_,by rw [e2,List.length_replicate],List.nodup_cons.mpr ⟨λhb=>(e4 Z hb).2 hZ,e3⟩,by omega⟩ (λb hb=>?_) (r.keeps kk)
  ·have hxs:=List.mem_of_getElem? hxs
   rw [List.mem_replicate] at hxs
   rw [hxs.2]
   exact jZ (e4 b (List.mem_of_getElem? hb)).1 λcc us n e=>hs'.extBut b _ (dT hm e) e
  ·rcases List.mem_cons.mp hb with rfl | hb
   ·exact hZn
   ·cases h:s.heap.get? b with
    | none=>rfl
    | some o=>exact absurd (hO b ⟨o,h⟩) (e4 b hb).2
theorem Run.nestSet {W:Avoid}{bs:List Addr}{xss:List (List Int)}{i1 i2 val:Expr}{p1 p2 p3 p4:Pos}{j:Nat}{z:Int}{Q:Flow->Shared->Prop}(r:Run c O No W V s)(hx:V.is x (objD a))(hd:(x==("__debug__":Str))=false)(Ns:Nest s.heap a bs xss)(hW:∀b∈a::bs,W b)(hi1:SubS.notSlice i1=true)
  (hsw:swapsWith val (some (.Subscript (.Subscript (.Name x p1) i1 p2) i2 p3)) p4.line c.env=pure false) (ev1:EvS c.g c.n V i1 (.int j) 0) (ev2:EvS c.g c.n V i2 (.int k) 0) (evz:EvS c.g c.n V val (.int z) 0) (hj:j < bs.length) (hk:∀xs,xss[j]?=some xs->k < xs.length) (hk2:k < 1000)
  (q:∀O' s',Run c O' No W V s'->Nest s'.heap a bs (xss.modify j (·.set k z))->(∀b o,b∉bs->s.heap.get? b=some o->s'.heap.get? b=some o)->Q .next s') :
  wpAny c.g.M c.Ar (exec (.Assign [.Subscript (.Subscript (.Name x p1) i1 p2) i2 p3] val p4) c.env) Q E s:=by
 have hjx:j < xss.length:=by rw [<- Ns.len]; exact hj
 obtain⟨b,hb⟩:∃b,bs[j]?=some b:=⟨_,List.getElem?_eq_getElem hj⟩
 obtain⟨xs,hxs⟩:∃xs,xss[j]?=some xs:=⟨_,List.getElem?_eq_getElem hjx⟩
 have hbm:b∈bs:=List.mem_of_getElem? hb
 have WB:W b:=hW b (List.mem_cons_of_mem _ hbm)
 have hkx:=hk xs hxs
 refine wpAny_Assign_Subscript (r.evG evz λvz s_0 k0 rz r0=>?_) hsw
 obtain⟨tz,rfl⟩:=aH rz
 have N0:=Ns.keeps (h':=s_0.heap) λb o zw=>aA k0 b o
 refine Subscript_ (r0.nameA hx hd (r0.evG ev1 λv s_1 k1 rv r1=>?_))
 obtain⟨t,rfl⟩:=aH rv
 have N1:=N0.keeps (h':=s_1.heap) λb o zw=>aA k1 b o
 obtain⟨m,ht⟩:=N1.top
 have hsm:=Ns.small
 refine tail_any (T:="list") ⟨_,ht,rfl⟩ slot_list_getitem.lookup (wpAny_getItem_list (k:=(j:Int)) (x:=.ref b) (IsL.isList ht) (by (simp +arith)) (by simp; omega) (by simp [hb]) ?_) (aS hi1 _ _)
 refine r1.evG ev2 λv2 s2 k2 rv2 r2=>?_
 obtain⟨t2,rfl⟩:=aH rv2
 have N2:=N1.keeps (h':=s2.heap) λb o zw=>aA k2 b o
 obtain⟨vs,n',hl,hsz,hrd⟩:=N2.sub j b xs hb hxs
 have hlen:=hrd.length
 rw [List.length_map,Array.length_toList] at hlen
 refine l8 (prog:=c.g.prog) (w:=c.g.w) hl (by (simp +arith)) (by omega) (by omega) λh3 n3 hI3 hs3=>?_
 have r3:=dW (tk:=s2.toks) r2 hs3 WB ⟨_,hI3⟩
 have nd:=Ns.nd
 simp only [List.nodup_cons] at nd
 refine q _ _ r3 ⟨?_,λi b' xs' e1 e2=>?_,by simp [Ns.len],Ns.nd,Ns.small⟩ λb' o hb' e=>(hs3.2 b' λz=>hb' (z ▸ hbm)).trans (aA k2 _ _ (aA k1 _ _ (aA k0 _ _ e)))
 ·obtain⟨m,ht⟩:=N2.top
  exact⟨m,(hs3.2 a λz=>nd.1 (z ▸ hbm)).trans ht⟩
 ·by_cases e:i=j
  ·subst e
   rw [hb] at e1; cases e1
   rw [List.getElem?_modify_eq,hxs] at e2
   cases e2
   refine⟨_,_,hI3,by rw [Array.size_setIfInBounds]; exact hsz,?_⟩
   rw [Array.toList_setIfInBounds,List.map_set]
   have e9:((k:Int)).toNat=k:=rfl
   rw [e9]
   obtain⟨ys,f1,f2⟩:=cG hrd
   have hrd':Rds No No h3 0 vs.toList (xs.map .int):=by rw [f1,<- f2]; exact bH ys
   exact hrd'.set k .int
  ·have hji:¬j=i:=λz=>e z.symm
   have e2:xss[i]?=some xs':=by simpa [List.getElem?_modify,hji] using e2
   have hne:b'≠b:=λz=>e ((List.getElem?_inj (List.getElem?_eq_some_iff.mp e1).1 nd.2).mp (by rw [e1,z,hb]))
   exact(N2.sub i b' xs' e1 e2).keeps λo eo=>(hs3.2 _ hne).trans eo
section
theorem Has.skip {sc:List (Str×NameKind)}{l:List (Str×D)}(H:Has sc l V)(hx:(l.lookup x).isNone=true):Has sc l (V.put x d 0):=⟨H.sc,λy e hy=>by
 show(V.put x d 0).vars.lookup y=some (e,0)
 rw [cY]
 cases h:y==x with
 | true=>rw [eq_of_beq h] at hy; rw [hy] at hx; cases hx
 | false=>exact H.is y e hy⟩
noncomputable def updM (F:Nat->Nat->Int) (j k:Nat) (z:Int) (a b:Nat):Int:=if a=j/\b=k then z else F a b
theorem lt5c {P:Nat->Prop}(h0:P 0)(h1:P 1)(h2:P 2)(h3:P 3)(h4:P 4):∀i < 5,P i
 | 0,_=>h0
 | 1,_=>h1
 | 2,_=>h2
 | 3,_=>h3
 | 4,_=>h4
 | n+5,h=>absurd h (Nat.not_lt.mpr (Nat.le_add_left ..))
theorem qK (F:Nat->Nat->Int)(z:Int):∀j < 5,∀k < 5,(tabL F).modify j (·.set k z)=tabL (updM F j k z) :=
 lt5c (P:=λj=>∀k < 5,(tabL F).modify j (·.set k z)=tabL (updM F j k z)) (lt5c (P:=λk=>(tabL F).modify 0 (·.set k z)=tabL (updM F 0 k z)) rfl rfl rfl rfl rfl) (lt5c (P:=λk=>(tabL F).modify 1 (·.set k z)=tabL (updM F 1 k z)) rfl rfl rfl rfl rfl) (lt5c (P:=λk=>(tabL F).modify 2 (·.set k z)=tabL (updM F 2 k z)) rfl rfl rfl rfl rfl) (lt5c (P:=λk=>(tabL F).modify 3 (·.set k z)=tabL (updM F 3 k z)) rfl rfl rfl rfl rfl) (lt5c (P:=λk=>(tabL F).modify 4 (·.set k z)=tabL (updM F 4 k z)) rfl rfl rfl rfl rfl)
theorem eD {F F':Nat->Nat->Int}(h:∀a b,a < 5->b < 5->F a b=F' a b):tabL F=tabL F':=by
 unfold tabL
 exact List.map_congr_left λi hi=>List.map_congr_left λj hj=>h i j (List.mem_range.mp hi) (List.mem_range.mp hj)
theorem rZ {F:Nat->Nat->Int}{j:Nat}{xs:List Int}(h:(tabL F)[j]?=some xs):xs.length=5:=by
 unfold tabL at h
 rw [List.getElem?_map,Option.map_eq_some_iff] at h
 obtain⟨i,_,rfl⟩:=h
 rfl
theorem div5 {a b:Nat}(hb:b < 5):(5*a+b) / 5=a/\(5*a+b) % 5=b:=by
 rw [Nat.add_comm,Nat.add_mul_div_left _ _ (by decide),Nat.add_mul_mod_self_left,Nat.div_eq_of_lt hb,Nat.zero_add,Nat.mod_eq_of_lt hb]
 exact⟨rfl,rfl⟩
theorem lt25 {a b:Nat}(ha:a < 5)(hb:b < 5):5*a+b < 25 :=
 Nat.lt_of_lt_of_le (Nat.add_lt_add_left hb _) (Nat.mul_le_mul_left 5 (Nat.succ_le_of_lt ha))
section
variable (gs:List Nat) (H:Nat->Nat->Int) (kept gone:Nat) (w:Int)
noncomputable def i8 (n a b:Nat):Int:=if ((List.range n).any λm=>jS gs kept gone (m / 5) (m % 5) && ((a==m / 5 && b==m % 5) || (a==m % 5 && b==m / 5)))=true then w else H a b
theorem u8 {i j:Nat}(hj:j < 5):(jS gs kept gone i j=true->i8 gs H kept gone w (5*i+j+1)=updM (updM (i8 gs H kept gone w (5*i+j)) i j w) j i w)/\(jS gs kept gone i j=false->i8 gs H kept gone w (5*i+j+1)=i8 gs H kept gone w (5*i+j)):=by
 obtain⟨d5,m5⟩:=div5 (a:=i) hj
 refine⟨λh=>?_,λh=>?_⟩
 ·funext a b
  unfold updM i8
  rw [List.range_succ,List.any_append,List.any_cons,List.any_nil,d5,m5,h,Bool.true_and,Bool.or_false]
  by_cases h1:a=j/\b=i
  ·rw [if_pos h1,if_pos]
   rw [h1.1,h1.2,beq_self_eq_true,beq_self_eq_true]
   simp
  ·rw [if_neg h1]
   by_cases h2:a=i/\b=j
   ·rw [if_pos h2,if_pos]
    rw [h2.1,h2.2,beq_self_eq_true,beq_self_eq_true]
    simp
   ·rw [if_neg h2]
    have e:((a==i && b==j) || (a==j && b==i))=false:=by
     rw [Bool.or_eq_false_iff]
     refine⟨Bool.eq_false_iff.mpr λz=>h2 ?_,Bool.eq_false_iff.mpr λz=>h1 ?_⟩ <;> (rw [Bool.and_eq_true,beq_iff_eq,beq_iff_eq] at z; exact z)
    rw [e,Bool.or_false]
 ·funext a b
  unfold i8
  rw [List.range_succ,List.any_append,List.any_cons,List.any_nil,d5,m5,h,Bool.false_and,Bool.or_false,Bool.or_false]
theorem yE {a b:Nat}(ha:a < 5)(hb:b < 5):i8 gs H kept gone w 25 a b=kR gs H kept gone w a b:=by
 unfold i8 kR
 have e:((List.range 25).any λm=>jS gs kept gone (m / 5) (m % 5) && ((a==m / 5 && b==m % 5) || (a==m % 5 && b==m / 5)))=(jS gs kept gone a b || jS gs kept gone b a):=by
  rw [Bool.eq_iff_iff,List.any_eq_true,Bool.or_eq_true]
  constructor
  ·rintro⟨m,_,hm⟩
   rw [Bool.and_eq_true,Bool.or_eq_true,Bool.and_eq_true,Bool.and_eq_true,beq_iff_eq,beq_iff_eq,beq_iff_eq,beq_iff_eq] at hm
   obtain⟨h1,⟨h2,h3⟩ | ⟨h2,h3⟩⟩:=hm
   ·rw [<- h2,<- h3] at h1; exact .inl h1
   ·rw [<- h2,<- h3] at h1; exact .inr h1
  ·rintro(h | h)
   ·refine⟨5*a+b,List.mem_range.mpr (lt25 ha hb),?_⟩
    rw [(div5 hb).1,(div5 hb).2,h,beq_self_eq_true,beq_self_eq_true]; rfl
   ·refine⟨5*b+a,List.mem_range.mpr (lt25 hb ha),?_⟩
    rw [(div5 ha).1,(div5 ha).2,h,beq_self_eq_true,beq_self_eq_true]; simp
 rw [e]
end
theorem i9 (x y:Nat):(((x:Nat):Int)==((y:Nat):Int))=(x==y):=by
 rw [Bool.eq_iff_iff,beq_iff_eq,beq_iff_eq]
 exact⟨λh=>Int.ofNat_inj.mp h,λh=>by rw [h]⟩
noncomputable def meB:List Stmt:=(fnOf "_law_melt").1
noncomputable def meN:List (Str×NameKind):=(fnOf "_law_melt").2.1
theorem me1 (P:Params):∃c,FnK (K1 P) 183 meB meN ["groups","heights","kept","gone","height"] c :=
 ⟨_,⟨_,_,_,_,rfl,⟨rfl,rfl,rfl,rfl,rfl,rfl⟩,rfl,by kernel_rfl,rfl,rfl,vsS λa=>four_vs (Q:=λt=>_) λzw zw zw zw=>rfl⟩,rfl⟩
noncomputable abbrev meL (gs:List Nat) (a:Addr) (kept gone:Nat) (w:Int):List (Str×D):=[("height",.int w),("gone",.int (gone:Int)),("kept",.int (kept:Int)),("heights",objD a),("groups",natD gs)]
noncomputable def meIf:Stmt:=(fJ ((fJ (meB.getD 0 noSt)).getD 0 noSt)).getD 0 noSt
section
variable {W:Avoid} {gs:List Nat} {bs:List Addr} {H:Nat->Nat->Int} {kept gone:Nat} {w:Int} {Q:Flow->Shared->Prop} (G:Gr1 c.g P) (hn:1<=c.n) (hg:gs.length=5)
include G hn hg
theorem me_turn {i j:Nat}(hi:i < 5)(hj:j < 5)(r:Run c O No W V s)(Hn:Has meN (("other",.int (j:Int))::("one",.int (i:Int))::meL gs a kept gone w) V)(Ns:Nest s.heap a bs (tabL (i8 gs H kept gone w (5*i+j))))(hW:∀b,W b↔b∈a::bs)
  (q:∀O' s',Run c O' No W V s'->Nest s'.heap a bs (tabL (i8 gs H kept gone w (5*i+j+1)))->Q .next s'):wpAny c.g.M c.Ar (exec meIf c.env) Q E s:=by
 have ok0:(Ev.at T0 12).Ok c.g c.n:=dH hn G.names fR 12
 have hone:=Hn.is "one" _ rfl
 have hoth:=Hn.is "other" _ rfl
 have hgr:=Hn.is "groups" _ rfl
 have hhe:=Hn.is "heights" _ rfl
 have hlb:bs.length=5:=by rw [Ns.len]; rfl
 conv in meIf=>whnf
 refine wpAny_If (r.testG (b:=jS gs kept gone i j) (ok0.t _ _ _ ((eE (b:=at5 gs i==kept) (c:=at5 gs j==gone) (cU rfl (r_ix rfl rfl (aC rfl rfl hgr) (aC rfl rfl hone) (cZ (by omega))) (aC rfl rfl (Hn.is "kept" _ rfl)) (by rw [<- i9]; rfl)) λzw=>(eE (b:=at5 gs j==gone) (c:=true) (cU rfl (r_ix rfl rfl (aC rfl rfl hgr) (aC rfl rfl hoth) (cZ (by omega))) (aC rfl rfl (Hn.is "gone" _ rfl)) (by rw [<- i9]; rfl)) λzw=>wQ).trans (congrArg some (Bool.and_true _))))) λs_1 k1 r1=>?_)
 have N1:=Ns.keeps (h':=s_1.heap) λb o zw=>aA k1 b o
 obtain⟨K1,K2⟩:=u8 gs H kept gone w (i:=i) hj
 cases hm:jS gs kept gone i j with
 | false =>
  refine(if_neg (by decide)).mpr (wpAny_execs_nil (q _ _ r1 ?_))
  rw [K2 hm]; exact N1
 | true =>
  refine(if_pos rfl).mpr (wpAny_execs_cons (r1.nestSet (j:=i) (k:=j) (z:=w) hhe (by decide) N1 (λb hb=>(hW b).mpr hb) rfl (aJ rfl _ _ _) (bE hone (by decide)) (bE hoth (by decide)) (bE (Hn.is "height" _ rfl) (by decide)) (by omega) (λxs hx=>by rw [rZ hx]; exact hj) (by (exact Nat.le_trans (by assumption) (by decide))) λO2 s2 r2 N2 zw=>?_))
  refine wpAny_execs_cons (r2.nestSet (j:=j) (k:=i) (z:=w) hhe (by decide) N2 (λb hb=>(hW b).mpr hb) rfl (aJ rfl _ _ _) (bE hoth (by decide)) (bE hone (by decide)) (bE (Hn.is "height" _ rfl) (by decide)) (by omega) (λxs hx=>by
   rw [qK _ _ i hi j hj] at hx
   rw [rZ hx]; exact hi) (by (exact Nat.le_trans (by assumption) (by decide))) λO3 s3 r3 N3 zw=>wpAny_execs_nil (q _ _ r3 ?_))
  rw [qK _ _ i hi j hj,qK _ _ j hj i hi] at N3
  rw [K1 hm]; exact N3
end
end
section
structure MeJ (gs:List Nat) (a:Addr) (bs:List Addr) (H:Nat->Nat->Int) (kept gone:Nat) (w:Int) (n:Nat) (W:Avoid) (s:Shared):Prop where
 ww:∀b,W b↔b∈a::bs
 ns:Nest s.heap a bs (tabL (i8 gs H kept gone w n))
theorem MeJ.stays {gs:List Nat}{bs:List Addr}{H:Nat->Nat->Int}{kept gone:Nat}{w:Int}{W:Avoid}(J:MeJ gs a bs H kept gone w n W s)(k:∀b o,W b->s.heap.get? b=some o->s'.heap.get? b=some o):MeJ gs a bs H kept gone w n W s' :=
 ⟨J.ww,J.ns.keeps λb o hb=>k b o ((J.ww b).mpr hb)⟩
noncomputable def meRow:List Stmt:=fJ (meB.getD 0 noSt)
section
variable {W:Avoid} {gs:List Nat} {bs:List Addr} {H:Nat->Nat->Int} {kept gone:Nat} {w:Int} {Q:Flow->Shared->Prop} (G:Gr1 c.g P) (hn:1<=c.n) (hg:gs.length=5)
include G hn hg
theorem me_row {i:Nat}(hi:i < 5)(r:Run c O No W V s)(Hn:Has meN (("one",.int (i:Int))::meL gs a kept gone w) V)(J:MeJ gs a bs H kept gone w (5*i) W s)
  (q:∀O' W' V' s',Run c O' No W' V' s'->MeJ gs a bs H kept gone w (5*(i+1)) W' s'->Has meN (meL gs a kept gone w) V'->Q .next s'):wpAny c.g.M c.Ar (execs meRow c.env) Q E s:=by
 conv in meRow=>whnf
 refine wpAny_execs_cons (r.forL (items:=(bF 0 5 1).map .int) (xs:=["other"]) rfl rfl (dA (k:=0) (b:=5) (G.names.range.now _) (by rw [Hn.sc]; rfl) eK rfl rfl) (λj W V s=>MeJ gs a bs H kept gone w (5*i+j) W s/\Has meN (("one",.int (i:Int))::meL gs a kept gone w) V) (λzw zw zw=>False) (λzw zw zw zw zw=>False)
  ?_ ⟨J,Hn⟩ ?_ ?_ ?_ (λzw zw zw zw zw zw h=>h.elim) (λzw zw zw zw zw zw zw h=>h.elim))
 ·rintro j W V s s' ⟨J,N⟩ k
  exact⟨J.stays k,N⟩
 ·rintro j d W V s hd ⟨J,N⟩
  exact⟨by rw [List.all_cons,N.st (x:="other") rfl]; rfl,_,rfl⟩
 ·intro Z O0 t j d O' W' V' V1 s' E' hd hbd hJ r'
  ((show let Q0:=_; wpAny _ _ _ Q0 _ _); intro Q0)
  refine wp_q λQ' hQ=>?_
  obtain⟨J,N⟩:=hJ
  obtain⟨hj,rfl⟩:=iT (n:=5) hd
  have hbd:V1=V'.put "other" (.int (j:Int)) 0:=(Option.some.inj hbd).symm
  subst hbd
  exact wpAny_execs_cons (me_turn (c:=c.prot Z O0 t) G hn hg hi hj r' N.put J.ns J.ww λO2 s2 r2 N2=>wpAny_execs_nil (hQ _ _ ⟨_,_,_,r2,⟨J.ww,N2⟩,N.skip rfl⟩))
 ·intro O1 W1 V1 s_1 hO r1 hJ
  obtain⟨J,N⟩:=hJ
  exact wpAny_execs_nil (q _ _ _ _ r1 J ⟨N.sc,λx d hx=>N.is x d (by
   rw [List.lookup_cons]
   cases h:x==("one":Str) with
   | false=>exact hx
   | true=>rw [eq_of_beq h] at hx; cases hx)⟩)
end
theorem melt_ret {gs:List Nat}{w:Int}{kept gone:Nat}{X:Rho->List Stmt->Option (Fl×Rho)}(hg:gs.length=5)(H:Has meN (meL gs a kept gone w) V)(hgr:V.is "groups" (natD gs))(hk:V.is "kept" (.int (kept:Int)))(hgo:V.is "gone" (.int (gone:Int))):bB (Ev.at T0 12) X V (meB.getD 1 noSt)=some (.ret (natD (b7 gs kept gone)),V):=by
 have e:(a7 (b7 gs kept gone)).map PyData.int=((a7 gs).map λx=>[PyData.int (if (x==(gone:Int))=true then (kept:Int) else x)]).flatten:=by
  rw [cP]
  unfold a7 b7
  rw [List.map_map,List.map_map,List.map_map]
  refine List.map_congr_left λx zw=>?_
  show PyData.int ((if x=gone then kept else x:Nat):Int)=PyData.int (if (((x:Nat):Int)==(gone:Int))=true then (kept:Int) else (x:Int))
  rw [i9]
  by_cases h:x=gone
  ·rw [if_pos h,if_pos (beq_iff_eq.mpr h)]
  ·rw [if_neg h,if_neg (λz=>h (beq_iff_eq.mp z))]
 unfold natD
 rw [e]
 conv in meB.getD 1 noSt=>whnf
 refine lT (k:=0) (gT rfl (cA (items:=(a7 gs).map .int) rfl ⟨rfl,rfl,H.free rfl,rfl⟩ (sS rfl (aC rfl rfl hgr)) (cL λx hx=>cD (r_if (t:=x==(gone:Int)) rfl (cU rfl (aC rfl rfl bS) (aC rfl rfl (aX (aV rfl hgo) rfl)) rfl) ?_)) ?_))
 ·cases h:x==(gone:Int) with
  | true=>exact(if_pos rfl).trans ((aC rfl rfl (aX (aV rfl hk) rfl)).trans rfl)
  | false=>exact(if_neg (by decide)).trans ((aC rfl rfl bS).trans rfl)
 ·rw [<- e,List.length_map]
  unfold a7
  rw [List.length_map,fS,hg]; decide
theorem pP {W:Avoid}{gs:List Nat}{bs:List Addr}{H:Nat->Nat->Int}{kept gone:Nat}{w:Int}{v1 v3 v4 v5:Value}(G:Gr1 g P)(at_:At g (n+2) A O M W F s)(hg:gs.length=5)(r1:Rd O M s.heap 0 v1 (natD gs))(Ns:Nest s.heap a bs (tabL H))(hW:∀b,W b↔b∈a::bs)(r3:Rd O M s.heap 0 v3 (.int (kept:Int)))(r4:Rd O M s.heap 0 v4 (.int (gone:Int)))(r5:Rd O M s.heap 0 v5 (.int w))
  (q:∀v s',Eff W F s W s'->Nest s'.heap a bs (tabL (kR gs H kept gone w))->Rd (λb=>O b\/W b) M s'.heap 0 v (natD (b7 gs kept gone))->R (.ok (.ret v)) s'):codeAny g.M A (.call (.ref 183) ⟨[v1,.ref a,v3,v4,v5],[]⟩) R s:=by
 obtain⟨cc,fk⟩:=me1 P
 rw [<- G.k] at fk
 refine eY (ds:=[natD gs,objD a,.int (kept:Int),.int (gone:Int),.int w]) at_ fk (.cons r1 (.cons .obj (.cons r3 (.cons r4 (.cons r5 .nil))))) rfl rfl rfl λenv Pp O' s2 r hc hk=>?_
 revert r
 (show let c:Fx:=_; Run c _ _ _ _ _->_)
 intro c r
 ((show let Q0:=_; wpAny _ _ _ Q0 _ _); intro Q0)
 have Hn:Has meN (meL gs a kept gone w) (((((⟨meN,[]⟩:Rho).put "groups" (natD gs) 0).put "heights" (objD a) 0).put "kept" (.int (kept:Int)) 0).put "gone" (.int (gone:Int)) 0 |>.put "height" (.int w) 0):=(show Has meN [] ⟨meN,[]⟩ from⟨rfl,λzw zw h=>by cases h⟩).put.put.put.put.put
 generalize (((((⟨meN,[]⟩:Rho).put "groups" (natD gs) 0).put "heights" (objD a) 0).put "kept" (.int (kept:Int)) 0).put "gone" (.int (gone:Int)) 0 |>.put "height" (.int w) 0)=V at Hn r
 have hn:1<=c.n:=by show 1<=n+1; (simp +arith)
 have hB:meB=[meB.getD 0 noSt,meB.getD 1 noSt]:=rfl
 rw [hB]
 have N2:Nest s2.heap a bs (tabL (i8 gs H kept gone w 0)):=(eD (F:=i8 gs H kept gone w 0) (F':=H) λa b zw zw=>rfl) ▸ Ns.keeps λb o zw=>hk b o
 have step0:∀{Q:Flow->Shared->Prop} {E:Value->Shared->Prop},(∀O5 W5 V5 s5,Run c O5 No W5 V5 s5->MeJ gs a bs H kept gone w 25 W5 s5->Has meN (meL gs a kept gone w) V5->Q .next s5)->wpAny g.M (A.deeper env) (exec (meB.getD 0 noSt) env) Q E s2:=λ{Q E} q0=>by
  conv in meB.getD 0 noSt=>whnf
  refine r.forL (items:=(bF 0 5 1).map .int) (xs:=["one"]) rfl rfl (dA (k:=0) (b:=5) (G.names.range.now _) (by rw [Hn.sc]; rfl) eK rfl rfl) (λi W V s=>MeJ gs a bs H kept gone w (5*i) W s/\Has meN (meL gs a kept gone w) V) (λzw zw zw=>False) (λzw zw zw zw zw=>False)
   ?_ ⟨⟨hW,N2⟩,Hn⟩ ?_ ?_ ?_ (λzw zw zw zw zw zw h=>h.elim) (λzw zw zw zw zw zw zw h=>h.elim)
  ·rintro j W V s s' ⟨J,N⟩ k
   exact⟨J.stays k,N⟩
  ·rintro j d W V s hd ⟨J,N⟩
   exact⟨by rw [List.all_cons,N.st (x:="one") rfl]; rfl,_,rfl⟩
  ·intro Z O0 t i d O' W' V' V1 s' E' hd hbd hJ r'
   refine wp_q λQ' hQ=>?_
   obtain⟨J,N⟩:=hJ
   obtain⟨hi,rfl⟩:=iT (n:=5) hd
   have hbd:V1=V'.put "one" (.int (i:Int)) 0:=(Option.some.inj hbd).symm
   subst hbd
   exact me_row (c:=c.prot Z O0 t) G hn hg hi r' N.put J λO2 W2 V2 s2 r2 J2 N2=>hQ _ _ ⟨_,_,_,r2,J2,N2⟩
  ·intro O1 W1 V1 s_1 hO r_1 hJ
   obtain⟨J,N⟩:=hJ
   exact q0 _ _ _ _ r_1 J N
 refine wpAny_execs_cons (step0 λO5 W5 V5 s5 r_5 J5 N5=>?_)
 have ok0:(Ev.at T0 12).Ok c.g c.n:=dH hn G.names fR 12
 refine wpAny_execs_cons (r_5.stm (kD ok0 2 (melt_ret hg N5 (N5.is _ _ rfl) (N5.is _ _ rfl) (N5.is _ _ rfl))) λfl s6 hfl ch r6=>?_)
 obtain⟨v,k,rfl,rv⟩:=hfl
 have hWW:∀b,c.W b->W5 b:=λb hb=>(J5.ww b).mpr ((hW b).mp hb)
 have hWe:W5=W:=funext λb=>propext ((J5.ww b).trans (hW b).symm)
 have N6:=J5.ns.keeps (h':=s6.heap) λb o hb=>r_5.same ch b o ((J5.ww b).mpr hb)
 rw [eD λa b ha hb=>yE gs H kept gone w ha hb] at N6
 have ef:=r6.eff_out hWW
 have rd:=r6.rd_out rv
 rw [hWe] at ef rd
 exact q v s6 ef N6 rd
end
section
theorem Run.storeQ {W:Avoid}{Q:Unit->Shared->Prop}(r:Run c O M W V s)(hx:stOk V x=true)(rv:Rd O M s.heap 0 v d)
  (q:∀s',Chg (PM c.P M) s s'->Run c O M W (V.put x d 0) s'->(∀b c vs n,s.heap.get? b=some { cls:=c,data:=.seq vs n }->s'.heap.get? b=some { cls:=c,data:=.seq vs n })->Q () s'):wpAny c.g.M c.Ar (storeName c.env x v) Q E s :=
 cS r.pl r.act hx rv λs' h1 h2 sq=>q s' h1.pm (r.chg h1.pm h2) sq
noncomputable def Two (c:Fx) (M:Avoid) (V:Rho) (K:Avoid->Avoid->D->D->Value->Value->Shared->Prop) (v1 v2:Value) (s:Shared):Prop :=
 ∃O W d1 d2,Run c O M W V s/\Rd O M s.heap 0 v1 d1/\Rd O M s.heap 0 v2 d2/\K O W d1 d2 v1 v2 s
section
variable {y:Str} {px py tp vp:Pos} {kk k2:Nat} {e1 e2:Expr} {Q:Flow->Shared->Prop}
theorem Run.assignSw (hh:c.Ar.handled=none)(hw:swappedStores [.Tuple [.Name x px,.Name y py] kk tp] (.Tuple [e1,e2] k2 vp) c.env=pure (some [x,y]))(h1:aQ e1=true)(h2:aQ e2=true)(hx:stOk V x=true)(hy:stOk V y=true)
  (h:wpAny c.g.M c.Ar (eval e1 c.env) (λv1 s_1=>wpAny c.g.M c.Ar (eval e2 c.env) (Two c M V (λO W d1 d2 zw zw s2=>∀s3,Run c O M W ((V.put y d2 0).put x d1 0) s3->(∀b o,W b->s2.heap.get? b=some o->s3.heap.get? b=some o)->Q .next s3) v1) E s_1) E s) :
  wpAny c.g.M c.Ar (exec (.Assign [.Tuple [.Name x px,.Name y py] kk tp] (.Tuple [e1,e2] k2 vp) p) c.env) Q E s:=by
 refine Assign_Tuple_swapped (wpAny_Tuple (wpAny_items_cons (wpAny_mono h (λv1 s_1 h=>wpAny_items_cons (wpAny_mono h (λv2 s2 h=>wpAny_items_nil ⟨by show 2<=sizeLine; decide,?_⟩) λzw zw z=>z) (dD h2)) λzw zw z=>z) (dD h1))) rfl hw
 obtain⟨O,W,d1,d2,r,rv1,rv2,q⟩:=h
 have k:Keeps s2 { s2 with heap:=s2.heap.push { cls:=.type "tuple",data:=.seq #[v1,v2] } }:=aI s2 _ _
 refine wpAny_unpackItems_tuple (prog:=c.g.prog) (w:=c.g.w) (items:=#[v1,v2]) hh ⟨_,Heap.get?_push_size _ rfl,rfl,_,rfl⟩ λh' he=>?_
 have k':Keeps s2 { s2 with heap:=h' }:=aB k ⟨h',s2.toks,rfl,λb o e=>he b o (Nat.ne_of_lt (Heap.lt_size e)) e⟩
 have r':=r.keeps k'
 have rv1':=rv1.keeps (aA k')
 have rv2':=rv2.keeps (aA k')
 show wpAny c.g.M c.Ar (do holding [v1] (bindName c.env y v2); (do holding [] (bindName c.env x v1); pure ())) (λzw=>Q .next) E _
 refine wpAny_bind (wpAny_holding (wpAny_bindName (r'.storeQ hy rv2' λs3 c3 r3 q3=>?_)))
 refine wpAny_bind (wpAny_holding (wpAny_bindName (r3.store (show stOk (V.put y d2 0) x=true from hx) (rv1'.seqs q3) λs4 c4 r4=>wpAny_pure ?_)))
 exact q s4 r4 λb o hb e=>r3.same c4 b o hb (r'.same c3 b o hb (aA k' _ _ e))
theorem Run.assignNo (hh:c.Ar.handled=none)(hw:swappedStores [.Tuple [.Name x px,.Name y py] kk tp] (.Tuple [e1,e2] k2 vp) c.env=pure none)(h1:aQ e1=true)(h2:aQ e2=true)(hx:stOk V x=true)(hy:stOk V y=true)
  (h:wpAny c.g.M c.Ar (eval e1 c.env) (λv1 s_1=>wpAny c.g.M c.Ar (eval e2 c.env) (Two c M V (λO W d1 d2 zw zw s2=>∀s3,Run c O M W ((V.put x d1 0).put y d2 0) s3->(∀b o,W b->s2.heap.get? b=some o->s3.heap.get? b=some o)->Q .next s3) v1) E s_1) E s) :
  wpAny c.g.M c.Ar (exec (.Assign [.Tuple [.Name x px,.Name y py] kk tp] (.Tuple [e1,e2] k2 vp) p) c.env) Q E s:=by
 refine Assign_Tuple (wpAny_Tuple (wpAny_items_cons (wpAny_mono h (λv1 s_1 h=>wpAny_items_cons (wpAny_mono h (λv2 s2 h=>wpAny_items_nil ⟨by show 2<=sizeLine; decide,?_⟩) λzw zw z=>z) (dD h2)) λzw zw z=>z) (dD h1))) rfl hw
 obtain⟨O,W,d1,d2,r,rv1,rv2,q⟩:=h
 have k:Keeps s2 { s2 with heap:=s2.heap.push { cls:=.type "tuple",data:=.seq #[v1,v2] } }:=aI s2 _ _
 have r':=r.keeps k
 have rt:Rd O M (s2.heap.push { cls:=.type "tuple",data:=.seq #[v1,v2] }) 0 (.ref s2.heap.objs.size) (.tuple [d1,d2]):=eG r.act.aO r.act.aM (by show 2<=cap; decide) (.cons rv1 (.cons rv2 .nil))
 exact gH (t:=.Tuple [.Name x px,.Name y py] kk tp) (xs:=[x,y]) hh r'.pl r'.act rfl (by rw [List.all_cons,List.all_cons,hx,hy]; rfl) rt rfl λs' g1 g2=>q s' (r'.chg g1.pm g2) λb o hb e=>r'.same g1.pm b o hb (aA k _ _ e)
end
theorem swK {W:Avoid}{sc:List (Str×NameKind)}(r:Run c O M W V s)(hsc:V.sc=sc):c.env.kindOf=(λx=>sc.lookup x)/\c.env.blockKind=.function:=by
 refine⟨funext λx=>?_,by unfold Env.blockKind; rw [r.act.eo.kind]; rfl⟩
 have:=r.act.eo.sc
 unfold Env.kindOf
 rw [this,hsc]
end
set_option backward.match.sparseCases true
section
noncomputable def Ans {α:Type} (f:Nat->Int) (N:Nat):KasT α->(α->Prop)->Prop
 | .ret a,P=>P a
 | .ask i j k,P=>i < N/\j < N/\Ans f N (k (decide (f i < f j))) P
theorem Ans.mono {α:Type}{f:Nat->Int}{N:Nat}{P P':α->Prop}(hp:∀a,P a->P' a):∀(t:KasT α),Ans f N t P->Ans f N t P'
 | .ret a,h=>hp a h
 | .ask _ _ k,h=>⟨h.1,h.2.1,Ans.mono hp (k _) h.2.2⟩
theorem Ans.bind {α β:Type}{f:Nat->Int}{N:Nat}{P:β->Prop}{k:α->KasT β}:∀(t:KasT α),Ans f N t (λa=>Ans f N (k a) P)->Ans f N (t.bind k) P
 | .ret _,h=>h
 | .ask _ _ k',h=>⟨h.1,h.2.1,Ans.bind (k' _) h.2.2⟩
theorem Ans.wp {α:Type}{f:Nat->Int}{N:Nat}{P:α->Prop}{cmp:Nat->Nat->(Bool->Shared->Prop)->Shared->Prop}{I:Shared->Prop}(hc:∀i j C s,i < N->j < N->I s->(∀s',I s'->C (decide (f i < f j)) s')->cmp i j C s):∀(t:KasT α) (s:Shared),I s->Ans f N t P->t.kasWp cmp (λa s'=>P a/\I s') s
 | .ret _,_,hi,h=>⟨h,hi⟩
 | .ask i j k,s,hi,h=>hc i j _ s h.1 h.2.1 hi λs' hi'=>Ans.wp hc (k _) s' hi' h.2.2
noncomputable def ky (f:Nat->Int) (p:Array Nat) (k:Nat):Int:=f (p.getD k 0)
noncomputable def oI (f:Nat->Int) (p:Array Nat) (k:Nat):Prop:=∀i j,i<=j->j < k->ky f p i<=ky f p j
structure PermN (N:Nat) (p:Array Nat):Prop where
 perm:p.toList.Perm (List.range N)
theorem PermN.size {N:Nat}{p:Array Nat}(h:PermN N p):p.size=N:=by
 rw [<- Array.length_toList,h.perm.length_eq,List.length_range]
theorem PermN.lt {N:Nat}{p:Array Nat}(h:PermN N p){i:Nat}(hi:i < N):p.getD i 0 < N:=by
 have hi':i < p.size:=by rw [h.size]; exact hi
 rw [Array.getD_eq_getD_getElem?,Array.getElem?_eq_getElem hi']
 exact List.mem_range.mp (h.perm.mem_iff.mp (Array.getElem_mem_toList hi'))
theorem PermN.inj {N:Nat}{p:Array Nat}(h:PermN N p){i j:Nat}(hi:i < N)(hj:j < N)(e:p.getD i 0=p.getD j 0):i=j:=by
 have hi':i < p.size:=by rw [h.size]; exact hi
 have hj':j < p.size:=by rw [h.size]; exact hj
 rw [Array.getD_eq_getD_getElem?,Array.getD_eq_getD_getElem?,Array.getElem?_eq_getElem hi',Array.getElem?_eq_getElem hj'] at e
 have e:p[i]=p[j]:=e
 refine(List.getElem?_inj (l:=p.toList) (by rw [Array.length_toList]; exact hi') (h.perm.nodup_iff.mpr List.nodup_range)).mp ?_
 rw [Array.getElem?_toList,Array.getElem?_toList,Array.getElem?_eq_getElem hi',Array.getElem?_eq_getElem hj',e]
theorem PermN.to {N:Nat}{p p':Array Nat}(h:PermN N p)(hp:p'.Perm p):PermN N p':=⟨(Array.perm_iff_toList_perm.mp hp).trans h.perm⟩
theorem iR {f:Nat->Int}{p p':Array Nat}{i j:Nat}(h:p[i]?=p'[j]?):ky f p i=ky f p' j:=by
 unfold ky
 rw [Array.getD_eq_getD_getElem?,Array.getD_eq_getD_getElem?,h]
theorem yM {f:Nat->Int}{p:Array Nat}{src d:Nat}(hs:src < p.size)(hd:d<=src)(k:Nat):ky f (bubble p src d) k=if k=src - d then ky f p src else if src - d < k/\k<=src then ky f p (k - 1) else ky f p k:=by
 have e:=getElem?_bubble hs d hd k
 split at e
 ·rw [if_pos (by assumption)]; exact iR e
 ·rw [if_neg (by assumption)]
  split at e
  ·rw [if_pos (by assumption)]; exact iR e
  ·rw [if_neg (by assumption)]; exact iR e
theorem pR {f:Nat->Int}{p:Array Nat}{j:Nat}(hj:j<=p.size)(k:Nat):ky f (kas_rev p 0 j) k=if k < j then ky f p (j - 1 - k) else ky f p k:=by
 have e:(kas_rev p 0 j)[k]?=_:=getElem?_mirror_all (i:=0) hj k
 by_cases hk:k < j
 ·rw [if_pos ⟨Nat.zero_le _,hk⟩,Nat.zero_add] at e
  rw [if_pos hk]
  exact iR e
 ·rw [if_neg λz=>hk z.2] at e
  rw [if_neg hk]
  exact iR e
section
variable {f:Nat->Int} {N:Nat} (inj:∀i j,i < N->j < N->f i=f j->i=j)
theorem rO {p:Array Nat}(hp:PermN N p):∀(u n:Nat),1<=n->n+u<=N->oI f p n->Ans f N (kas_asc p u n) (λm=>n<=m/\m<=n+u/\oI f p m/\(m < n+u->ky f p m < ky f p (m - 1)))
 | 0,n,h1,h2,hs=>⟨Nat.le_refl _,Nat.le_refl _,hs,λh=>absurd h (Nat.lt_irrefl _)⟩
 | u+1,n,h1,h2,hs=>by
  have hn:n < N:=Nat.lt_of_lt_of_le (Nat.lt_add_of_pos_right (Nat.succ_pos u)) h2
  have hd:n - 1 < n:=Nat.sub_lt h1 Nat.zero_lt_one
  have e:n+1+u=n+(u+1):=Nat.succ_add_eq_add_succ n u
  refine⟨hp.lt hn,hp.lt (Nat.lt_trans hd hn),?_⟩
  show Ans f N (if decide (ky f p n < ky f p (n - 1))=true then KasT.ret n else kas_asc p u (n+1)) _
  by_cases h:ky f p n < ky f p (n - 1)
  ·rw [decide_eq_true h,if_pos rfl]
   exact⟨Nat.le_refl _,Nat.le_add_right ..,hs,λzw=>h⟩
  ·rw [decide_eq_false h,if_neg (by decide),<- e]
   refine(rO hp u (n+1) (Nat.le_add_left 1 n) (Nat.le_trans (Nat.le_of_eq e) h2) λi j hij hj=>?_).mono (λm hm=>⟨Nat.le_of_lt hm.1,hm.2⟩)
   rcases Nat.lt_or_eq_of_le (Nat.le_of_lt_succ hj) with hjn | hjn
   ·exact hs i j hij hjn
   ·rw [hjn] at hij ⊢
    rcases Nat.lt_or_eq_of_le hij with hin | hin
    ·exact Int.le_trans (hs i (n - 1) (Nat.le_sub_one_of_lt hin) hd) (Int.not_lt.mp h)
    ·rw [hin]; exact Int.le_refl _
include inj
theorem ky_ne {p:Array Nat}(hp:PermN N p){i j:Nat}(hi:i < N)(hj:j < N)(h:i≠j):ky f p i≠ky f p j:=λe=>h (hp.inj hi hj (inj _ _ (hp.lt hi) (hp.lt hj) e))
theorem tM {p:Array Nat}(hp:PermN N p):∀(u n:Nat),1<=n->n+u<=N->(∀i,1<=i->i < n->ky f p i<=ky f p (i - 1))->Ans f N (kas_desc u p n 0) (λr=>r.1=p/\r.2.2=0/\n<=r.2.1/\r.2.1<=n+u/\∀i,1<=i->i < r.2.1->ky f p i<=ky f p (i - 1))
 | 0,n,h1,h2,hs=>⟨rfl,rfl,Nat.le_refl _,Nat.le_refl _,hs⟩
 | u+1,n,h1,h2,hs=>by
  have hn:n < N:=Nat.lt_of_lt_of_le (Nat.lt_add_of_pos_right (Nat.succ_pos u)) h2
  have hd:n - 1 < n:=Nat.sub_lt h1 Nat.zero_lt_one
  have hn1:n - 1 < N:=Nat.lt_trans hd hn
  have e:n+1+u=n+(u+1):=Nat.succ_add_eq_add_succ n u
  refine⟨hp.lt hn,hp.lt hn1,?_⟩
  show Ans f N (if decide (ky f p n < ky f p (n - 1))=true then (if 0 > 0 then kas_desc u (kas_rev p (n - (0+1)) n) (n+1) 0 else kas_desc u p (n+1) 0) else KasT.ask (p.getD (n - 1) 0) (p.getD n 0) λd=>if d=true then KasT.ret (p,n,0) else kas_desc u p (n+1) (0+1)) _
  by_cases h:ky f p n < ky f p (n - 1)
  ·rw [decide_eq_true h,if_pos rfl,if_neg (by decide),<- e]
   refine(tM hp u (n+1) (Nat.le_add_left 1 n) (Nat.le_trans (Nat.le_of_eq e) h2) λi hi1 hi=>?_).mono (λm hm=>⟨hm.1,hm.2.1,Nat.le_of_lt hm.2.2.1,hm.2.2.2⟩)
   rcases Nat.lt_or_eq_of_le (Nat.le_of_lt_succ hi) with hin | hin
   ·exact hs i hi1 hin
   ·rw [hin]; exact Int.le_of_lt h
  ·rw [decide_eq_false h,if_neg (by decide)]
   refine⟨hp.lt hn1,hp.lt hn,?_⟩
   have h':ky f p (n - 1) < ky f p n:=Int.lt_iff_le_and_ne.mpr ⟨Int.not_lt.mp h,ky_ne inj hp hn1 hn (Nat.ne_of_lt hd)⟩
   show Ans f N (if decide (ky f p (n - 1) < ky f p n)=true then _ else _) _
   rw [decide_eq_true h',if_pos rfl]
   exact⟨rfl,rfl,Nat.le_refl _,Nat.le_add_right ..,hs⟩
omit inj in
theorem tF {p:Array Nat}{m:Nat}(h:∀i,1<=i->i < m->ky f p i<=ky f p (i - 1)):∀(d i:Nat),i+d < m->ky f p (i+d)<=ky f p i
 | 0,i,_=>Int.le_refl _
 | d+1,i,hd=>Int.le_trans (h (i+d+1) (by (simp +arith)) (by omega)) (tF h d i (by (exact Nat.le_of_lt (by assumption))))
theorem AI {p:Array Nat}(hp:PermN N p)(h2:2<=N):Ans f N (kas_count N p) (λr=>1<=r.1/\r.1<=N/\PermN N r.2/\oI f r.2 r.1):=by
 have hN:1+(N - 1)=N:=Nat.add_sub_cancel' (Nat.le_of_lt h2)
 have hN2:2+(N - 2)=N:=Nat.add_sub_cancel' h2
 unfold kas_count
 refine Ans.bind _ ((rO hp (N - 1) 1 (Nat.le_refl _) (Nat.le_of_eq hN) λi j hij hj=>?_).mono λn hn=>?_)
 ·have ej:=Nat.le_zero.mp (Nat.le_of_lt_succ hj)
  rw [ej] at hij ⊢
  rw [Nat.le_zero.mp hij]; exact Int.le_refl _
 rw [hN] at hn
 obtain⟨a1,a2,a3,a4⟩:=hn
 split
 ·exact⟨a1,a2,hp,a3⟩
 ·rename_i e
  have e:n≠N:=λz=>e (by rw [z]; exact beq_self_eq_true _)
  have a2:n < N:=Nat.lt_of_le_of_ne a2 e
  split
  ·rename_i hg
   have hp0:0 < N:=Nat.lt_trans (Nat.lt_trans Nat.zero_lt_one hg) a2
   have hn1:n - 1 < n:=Nat.sub_lt a1 Nat.zero_lt_one
   have hn2:n - 1 < N:=Nat.lt_trans hn1 a2
   refine⟨hp.lt hp0,hp.lt hn2,?_⟩
   have h':ky f p 0 < ky f p (n - 1):=Int.lt_iff_le_and_ne.mpr ⟨a3 _ _ (Nat.zero_le _) hn1,ky_ne inj hp hp0 hn2 (Nat.ne_of_lt (Nat.sub_pos_of_lt hg))⟩
   show Ans f N (if decide (ky f p 0 < ky f p (n - 1))=true then _ else _) _
   rw [decide_eq_true h',if_pos rfl]
   exact⟨a1,Nat.le_of_lt a2,hp,a3⟩
  ·rename_i hg
   have e1:n=1:=Nat.le_antisymm (Nat.not_lt.mp hg) a1
   subst e1
   unfold kas_descPart
   refine Ans.bind _ ((tM inj hp (N - 2) 2 (Nat.le_succ 1) (Nat.le_of_eq hN2) λi hi1 hi=>?_).mono λr hr=>?_)
   ·rw [Nat.le_antisymm (Nat.le_of_lt_succ hi) hi1]; exact Int.le_of_lt (a4 a2)
   rw [hN2] at hr
   obtain⟨p',m,q⟩:=r
   obtain⟨b1,b2,b3,b4,b5⟩:=hr
   have b1:p'=p:=b1
   have b2:q=0:=b2
   subst b1
   subst b2
   show Ans f N (if 0 > 0 then _ else kas_tail3 m N p') _
   rw [if_neg (by decide)]
   unfold kas_tail3
   have b3:1<=m:=Nat.le_of_lt b3
   have b4:m<=N:=b4
   have hp':PermN N (kas_rev p' 0 m):=hp.to (mirror_perm _ _ _ _)
   have hm:m<=p'.size:=by rw [hp.size]; exact b4
   have hmN:m+(N - m)=N:=Nat.add_sub_cancel' b4
   refine Ans.bind _ ((rO hp' (N - m) m b3 (Nat.le_of_eq hmN) λi j hij hj=>?_).mono λn' hn'=>⟨Nat.le_trans b3 hn'.1,Nat.le_trans hn'.2.1 (Nat.le_of_eq hmN),hp',hn'.2.2.1⟩)
   have e3:m - 1 - j+(j - i)=m - 1 - i:=Nat.sub_add_sub_cancel (Nat.le_sub_one_of_lt hj) hij
   rw [pR hm,pR hm,if_pos (Nat.lt_of_le_of_lt hij hj),if_pos hj]
   have:=tF (m:=m) b5 (j - i) (m - 1 - j) (by rw [e3]; exact Nat.lt_of_le_of_lt (Nat.sub_le _ _) (Nat.sub_lt b3 Nat.zero_lt_one))
   rw [e3] at this
   exact this
omit inj in
theorem mid_is {l r:Nat}(h:l < r):l<=(l+r) / 2/\(l+r) / 2 < r:=⟨by omega,by omega⟩
omit inj in
theorem lK {p:Array Nat}(hp:PermN N p){k:Nat}(hk:k < N)(hs:oI f p k):∀(u l r:Nat),l<=r->r<=k->r - l<=u->(∀i,i < l->ky f p i<=ky f p k)->(∀i,r<=i->i < k->ky f p k < ky f p i) →
  Ans f N (kas_place p k u l r) (λl=>l<=k/\(∀i,i < l->ky f p i<=ky f p k)/\(∀i,l<=i->i < k->ky f p k < ky f p i))
 | 0,l,r,hlr,hr,hu,h1,h2=>⟨Nat.le_trans hlr hr,h1,λi a b=>h2 i (Nat.le_trans (Nat.sub_eq_zero_iff_le.mp (Nat.le_zero.mp hu)) a) b⟩
 | u+1,l,r,hlr,hr,hu,h1,h2=>by
  unfold kas_place
  by_cases hge:l>=r
  ·rw [if_pos hge]
   exact⟨Nat.le_trans hlr hr,h1,λi a b=>h2 i (Nat.le_trans hge a) b⟩
  ·rw [if_neg hge]
   have hlt:l < r:=Nat.lt_of_not_le hge
   obtain⟨m1,m2⟩:=mid_is hlt
   show Ans f N (KasT.ask (p.getD k 0) (p.getD ((l+r) / 2) 0) λd=>if d=true then kas_place p k u l ((l+r) / 2) else kas_place p k u ((l+r) / 2+1) r) _
   generalize (l+r) / 2=md at m1 m2 ⊢
   have mk:md < k:=Nat.lt_of_lt_of_le m2 hr
   refine⟨hp.lt hk,hp.lt (Nat.lt_trans mk hk),?_⟩
   show Ans f N (if decide (ky f p k < ky f p md)=true then _ else _) _
   by_cases h:ky f p k < ky f p md
   ·rw [decide_eq_true h,if_pos rfl]
    exact lK hp hk hs u l md m1 (Nat.le_of_lt mk) (Nat.le_of_lt_succ (Nat.lt_of_lt_of_le (Nat.sub_lt_sub_right m1 m2) hu)) h1 λi a b=>Int.lt_of_lt_of_le h (hs _ _ a b)
   ·rw [decide_eq_false h,if_neg (by decide)]
    exact lK hp hk hs u (md+1) r m2 hr (Nat.le_of_lt_succ (Nat.lt_of_lt_of_le (Nat.sub_lt_sub_left hlt (Nat.lt_succ_of_le m1)) hu)) (λi a=>Int.le_trans (hs i md (Nat.le_of_lt_succ a) mk) (Int.not_lt.mp h)) h2
omit inj in
theorem AJ:∀(u:Nat) {p:Array Nat} {k:Nat},PermN N p->1<=k->k+u=N->oI f p k->Ans f N (kas_bin u p k) (λp=>PermN N p/\oI f p N)
 | 0,p,k,hp,h1,hk,hs=>⟨hp,by rw [<- hk]; exact hs⟩
 | u+1,p,k,hp,h1,hk,hs=>by
  have hkN:k < N:=by rw [<- hk]; exact Nat.lt_add_of_pos_right (Nat.succ_pos u)
  have hks:k < p.size:=by rw [hp.size]; exact hkN
  refine Ans.bind _ ((lK hp hkN hs k 0 k (Nat.zero_le _) (Nat.le_refl _) (Nat.sub_le _ _) (λi a=>absurd a (Nat.not_lt_zero _)) λi a b=>absurd b (Nat.not_lt.mpr a)).mono λl hl=>?_)
  obtain⟨c1,c2,c3⟩:=hl
  refine AJ u (hp.to (bubble_perm _ _ _)) (Nat.le_succ_of_le h1) ((Nat.succ_add_eq_add_succ k u).trans hk) λi j hij hj=>?_
  have hj:j<=k:=Nat.le_of_lt_succ hj
  have K:∀x,ky f (bubble p k (k - l)) x=if x=l then ky f p k else if l < x/\x<=k then ky f p (x - 1) else ky f p x:=λx=>by
   rw [yM hks (Nat.sub_le _ _),Nat.sub_sub_self c1]
  have K1:∀x,x < l->ky f (bubble p k (k - l)) x=ky f p x:=λx hx=>by rw [K,if_neg (Nat.ne_of_lt hx),if_neg λz=>Nat.lt_asymm hx z.1]
  have K2:ky f (bubble p k (k - l)) l=ky f p k:=by rw [K,if_pos rfl]
  have K3:∀x,l < x->x<=k->ky f (bubble p k (k - l)) x=ky f p (x - 1):=λx hx hk=>by rw [K,if_neg (Nat.ne_of_gt hx),if_pos ⟨hx,hk⟩]
  clear K
  have hj1:l < j->j - 1 < k:=λh=>Nat.lt_of_lt_of_le (Nat.sub_lt (Nat.lt_of_le_of_lt (Nat.zero_le _) h) Nat.zero_lt_one) hj
  rcases Nat.lt_trichotomy i l with hi | hi | hi
  ·rw [K1 i hi]
   rcases Nat.lt_trichotomy j l with hjl | hjl | hjl
   ·rw [K1 j hjl]; exact hs _ _ hij (Nat.lt_of_lt_of_le hjl c1)
   ·rw [hjl,K2]; exact c2 _ hi
   ·rw [K3 j hjl hj]; exact hs _ _ (Nat.le_trans (Nat.le_of_lt hi) (Nat.le_sub_one_of_lt hjl)) (hj1 hjl)
  ·rw [hi,K2]
   rcases Nat.lt_or_eq_of_le (hi ▸ hij:l<=j) with hjl | hjl
   ·rw [K3 j hjl hj]; exact Int.le_of_lt (c3 _ (Nat.le_sub_one_of_lt hjl) (hj1 hjl))
   ·rw [<- hjl,K2]; exact Int.le_refl _
  ·have hjl:=Nat.lt_of_lt_of_le hi hij
   rw [K3 i hi (Nat.le_trans hij hj),K3 j hjl hj]; exact hs _ _ (Nat.sub_le_sub_right hij 1) (hj1 hjl)
theorem ans_sort (h2:2<=N):Ans f N (kas_sort N) (λp=>PermN N p/\oI f p N):=by
 unfold kas_sort
 refine Ans.bind _ ((AI inj (p:=(List.range N).toArray) ⟨List.Perm.refl _⟩ h2).mono λr hr=>?_)
 obtain⟨a1,a2,a3,a4⟩:=hr
 split
 ·exact AJ _ a3 (Nat.le_max_right _ _) (by rw [Nat.max_eq_left a1]; exact Nat.add_sub_cancel' a2) (by rw [Nat.max_eq_left a1]; exact a4)
 ·rename_i hlt
  have e:r.1=N:=Nat.le_antisymm a2 (Nat.not_lt.mp hlt)
  exact⟨a3,by rw [<- e]; exact a4⟩
end
end
section
noncomputable def dL (t:Tri):Int:=(t.1*5+(t.2.1:Int))*5+(t.2.2:Int)
theorem dig5 {p q x y:Int}(hx:0<=x)(hx':x < 5)(hy:0<=y)(hy':y < 5)(h:p≠q):(p < q↔p*5+x < q*5+y)/\p*5+x≠q*5+y:=by
 rcases Int.lt_or_gt_of_ne h with h | h
 ·have h1:p*5+x < q*5+y:=by omega
  exact⟨iff_of_true h h1,Int.ne_of_lt h1⟩
 ·have h1:q*5+y < p*5+x:=by omega
  exact⟨iff_of_false (Int.lt_asymm h) (Int.lt_asymm h1),Int.ne_of_gt h1⟩
theorem lG {p q:Int}{x y:Nat}(hx:x < 5)(hy:y < 5)(h:p≠q):(p < q↔p*5+(x:Int) < q*5+(y:Int))/\p*5+(x:Int)≠q*5+(y:Int):=dig5 (Int.natCast_nonneg x) (Int.ofNat_lt.mpr hx) (Int.natCast_nonneg y) (Int.ofNat_lt.mpr hy) h
noncomputable def tupD (t:Tri):D:=.tuple [.int t.1,.int (t.2.1:Int),.int (t.2.2:Int)]
noncomputable def TupAt (h:Heap) (v:Value) (t:Tri):Prop:=∃a n t1 t2 t3,v=.ref a/\IsT h a #[.int t.1 t1,.int (t.2.1:Int) t2,.int (t.2.2:Int) t3] n
theorem tup_of {t:Tri}(r:Rd O M h k v (tupD t)):TupAt h v t:=by
 obtain⟨a,vs,n,rfl,h1,h2,h3,_,_⟩:=kG r
 obtain⟨x,y,z,e,r1,r2,r3⟩:=h3.three_inv
 obtain⟨t1,rfl⟩:=aH r1
 obtain⟨t2,rfl⟩:=aH r2
 obtain⟨t3,rfl⟩:=aH r3
 refine⟨a,n,t1,t2,t3,rfl,?_⟩
 have:vs=#[.int t.1 t1,.int (t.2.1:Int) t2,.int (t.2.2:Int) t3]:=Array.toList_inj.mp e
 rw [<- this]; exact h2
theorem TupAt.keeps {t:Tri}(x:TupAt h v t)(k:∀a vs n,IsT h a vs n->IsT h' a vs n):TupAt h' v t:=by
 obtain⟨a,n,t1,t2,t3,e,h1⟩:=x
 exact⟨a,n,t1,t2,t3,e,k _ _ _ h1⟩
section
variable {prog:Program} {w:World}
theorem tup_lt {u:Value}{x y:Tri}{Q:Bool->Shared->Prop}(hx:TupAt s.heap v x)(hy:TupAt s.heap u y)(bx:x.2.1 < 5/\x.2.2 < 5)(by':y.2.1 < 5/\y.2.2 < 5)(q:Q (decide (dL x < dL y)) s):wpAny (model prog w) A (keyLt' (tuples' true) v u) Q E s:=by
 obtain⟨a,n,t1,t2,t3,rfl,h1⟩:=hx
 obtain⟨b,m,u1,u2,u3,rfl,h2⟩:=hy
 unfold dL at q
 refine kat_lt h1 rfl h2 rfl ?_
 show KatLex prog w A true false Q [(.int x.1 t1,.int y.1 u1),(.int (x.2.1:Int) t2,.int (y.2.1:Int) u2),(.int (x.2.2:Int) t3,.int (y.2.2:Int) u3)] 0 s
 refine kat_cons (wpAny_eqBool_int ?_)
 cases e1:(x.1==y.1) with
 | false =>
  have e1:=beq_eq_false_iff_ne.mp e1
  refine kat_no (oneLt_int ?_)
  rw [show decide (x.1 < y.1)=_ from ?_]
  ·exact q
  ·have d1:=lG bx.1 by'.1 e1
   exact decide_eq_decide.mpr (d1.1.trans (lG bx.2 by'.2 d1.2).1)
 | true =>
  have e1:=eq_of_beq e1
  rw [e1] at q
  refine kat_yes (kat_cons (wpAny_eqBool_int ?_))
  cases e2:((x.2.1:Int)==(y.2.1:Int)) with
  | false =>
   have e2:=beq_eq_false_iff_ne.mp e2
   refine kat_no (kat_one _ _ (P.lt_int ?_))
   show Q (decide ((x.2.1:Int) < (y.2.1:Int))) s
   rw [show decide ((x.2.1:Int) < (y.2.1:Int))=_ from ?_]
   ·exact q
   ·exact decide_eq_decide.mpr ((Int.add_lt_add_iff_left _).symm.trans (lG bx.2 by'.2 λz=>e2 (Int.add_left_cancel z)).1)
  | true =>
   have e2:=eq_of_beq e2
   rw [e2] at q
   refine kat_yes (kat_cons (wpAny_eqBool_int ?_))
   cases e3:((x.2.2:Int)==(y.2.2:Int)) with
   | false =>
    have e3:=beq_eq_false_iff_ne.mp e3
    refine kat_no (kat_one _ _ (P.lt_int ?_))
    show Q (decide ((x.2.2:Int) < (y.2.2:Int))) s
    rw [show decide ((x.2.2:Int) < (y.2.2:Int))=_ from ?_]
    ·exact q
    ·exact decide_eq_decide.mpr (Int.add_lt_add_iff_left _).symm
   | true =>
    have e3:=eq_of_beq e3
    rw [e3] at q
    refine kat_yes (kat_nil ?_)
    rw [show(false:Bool)=_ from ?_]
    ·exact q
    ·exact(decide_eq_false (Int.lt_irrefl _)).symm
end
noncomputable def insT (x:Tri):List Tri->List Tri
 | []=>[x]
 | y::ys=>if dL x<=dL y then x::y::ys else y::insT x ys
noncomputable def oU:List Tri->List Tri
 | []=>[]
 | x::xs=>insT x (oU xs)
theorem pU (x:Tri)(l:List Tri):(insT x l).Perm (x::l):=by
 induction l with
 | nil=>exact .refl _
 | cons y ys ih =>
  unfold insT
  split
  ·exact .refl _
  ·exact(List.Perm.cons y ih).trans (List.Perm.swap x y ys)
theorem bX (l:List Tri):(oU l).Perm l:=by
 induction l with
 | nil=>exact .refl _
 | cons x xs ih=>exact(pU x _).trans (List.Perm.cons x ih)
theorem rE {x:Tri}{l:List Tri}(h:l.Pairwise λa b=>dL a<=dL b):(insT x l).Pairwise λa b=>dL a<=dL b:=by
 induction l with
 | nil=>exact List.pairwise_singleton _ _
 | cons y ys ih =>
  obtain⟨h1,h2⟩:=List.pairwise_cons.mp h
  unfold insT
  split
  ·rename_i hc
   exact List.pairwise_cons.mpr ⟨λz hz=>(List.mem_cons.mp hz).elim (λe=>e ▸ hc) λhz=>Int.le_trans hc (h1 z hz),h⟩
  ·rename_i hc
   exact List.pairwise_cons.mpr ⟨λz hz=>(List.mem_cons.mp ((pU x ys).mem_iff.mp hz)).elim (λe=>e ▸ Int.le_of_lt (Int.not_le.mp hc)) λhz=>h1 z hz,ih h2⟩
theorem jK (l:List Tri):(oU l).Pairwise λa b=>dL a<=dL b:=by
 induction l with
 | nil=>exact .nil
 | cons x xs ih=>exact rE ih
structure TriOk (ts:List Tri):Prop where
 b:∀t∈ts,t.2.1 < 5/\t.2.2 < 5
 n:(ts.map λt=>t.2).Nodup
theorem rank_eq {x y:Tri}(bx:x.2.1 < 5/\x.2.2 < 5)(by':y.2.1 < 5/\y.2.2 < 5)(h:dL x=dL y):x.2=y.2:=by
 have h1:x.1*5+(x.2.1:Int)=y.1*5+(y.2.1:Int):=Decidable.not_not.mp λz=>(lG bx.2 by'.2 z).2 h
 have h2:x.1=y.1:=Decidable.not_not.mp λz=>(lG bx.1 by'.1 z).2 h1
 unfold dL at h
 rw [h1] at h
 rw [h2] at h1
 exact Prod.ext (Int.ofNat_inj.mp (Int.add_left_cancel h1)) (Int.ofNat_inj.mp (Int.add_left_cancel h))
theorem TriOk.inj {ts:List Tri}(h:TriOk ts){i j:Nat}(hi:i < ts.length)(hj:j < ts.length)(e:dL (ts.getD i (0,0,0))=dL (ts.getD j (0,0,0))):i=j:=by
 rw [List.getD_eq_getElem?_getD,List.getD_eq_getElem?_getD,List.getElem?_eq_getElem hi,List.getElem?_eq_getElem hj] at e
 have e2:=rank_eq (h.b _ (List.getElem_mem hi)) (h.b _ (List.getElem_mem hj)) e
 refine(List.getElem?_inj (l:=ts.map λt=>t.2) (by rw [List.length_map]; exact hi) h.n).mp ?_
 rw [List.getElem?_map,List.getElem?_map,List.getElem?_eq_getElem hi,List.getElem?_eq_getElem hj]
 exact congrArg some e2
theorem xO {ts:List Tri}{p:List Nat}(h:p.Perm (List.range ts.length)):(p.map λi=>ts.getD i (0,0,0)).Perm ts:=by
 refine(h.map _).trans ?_
 have e:(List.range ts.length).map (λi=>ts.getD i (0,0,0))=ts:=List.ext_getElem? λi=>by
  rw [List.getElem?_map]
  by_cases hi:i < ts.length
  ·rw [List.getElem?_range hi,List.getElem?_eq_getElem hi]
   show some (ts.getD i _)=_
   rw [List.getD_eq_getElem?_getD,List.getElem?_eq_getElem hi]; rfl
  ·rw [List.getElem?_eq_none (by rw [List.length_range]; omega),List.getElem?_eq_none (by omega)]; rfl
 rw [e]
theorem wY {ts:List Tri}(h:TriOk ts){p:Array Nat}(hp:PermN ts.length p)(hs:oI (λi=>dL (ts.getD i (0,0,0))) p ts.length):p.toList.map (λi=>ts.getD i (0,0,0))=oU ts:=by
 have P1:=xO hp.perm
 refine List.Perm.eq_of_pairwise (le:=λa b=>dL a<=dL b) (λx y hx hy h1 h2=>?_) ?_ (jK ts) (P1.trans (bX ts).symm)
 ·have hx':=P1.mem_iff.mp hx
  have hy':=(bX ts).mem_iff.mp hy
  obtain⟨i,hi,rfl⟩:=List.getElem_of_mem hx'
  obtain⟨j,hj,rfl⟩:=List.getElem_of_mem hy'
  have e:i=j:=h.inj hi hj (by
   rw [List.getD_eq_getElem?_getD,List.getD_eq_getElem?_getD,List.getElem?_eq_getElem hi,List.getElem?_eq_getElem hj]
   exact Int.le_antisymm h1 h2)
  subst e; rfl
 ·refine List.pairwise_iff_getElem.mpr λi j hi hj hij=>?_
  rw [List.length_map,Array.length_toList] at hi hj
  rw [List.getElem_map,List.getElem_map]
  have:=hs i j (Nat.le_of_lt hij) (by rw [<- hp.size]; exact hj)
  unfold ky at this
  rw [Array.getD_eq_getD_getElem?,Array.getD_eq_getD_getElem?,Array.getElem?_eq_getElem hi,Array.getElem?_eq_getElem hj] at this
  exact this
end
section
noncomputable def TupsAt (h:Heap) (vs:List Value) (ts:List Tri):Prop:=vs.length=ts.length/\∀i < ts.length,TupAt h (vs.getD i .none) (ts.getD i (0,0,0))
theorem TupsAt.keeps {vs:List Value}{ts:List Tri}(x:TupsAt h vs ts)(k:∀a vs n,IsT h a vs n->IsT h' a vs n):TupsAt h' vs ts:=⟨x.1,λi hi=>(x.2 i hi).keeps k⟩
theorem tups_of {vs:List Value}{ts:List Tri}(r:Rds O M h k vs (ts.map tupD)):TupsAt h vs ts:=by
 refine⟨by rw [r.length,List.length_map],λi hi=>?_⟩
 obtain⟨v,h1,h2⟩:=r.get (i:=i) (d:=tupD (ts.getD i (0,0,0))) (by rw [List.getElem?_map,List.getElem?_eq_getElem hi,List.getD_eq_getElem?_getD,List.getElem?_eq_getElem hi]; rfl)
 rw [List.getD_eq_getElem?_getD,h1]
 exact tup_of h2
theorem j6 {h:Heap}:∀{vs:List Value} {ts:List Tri},TupsAt h vs ts->∃fs,KatTups h vs fs/\fs.length=ts.length/\∀f∈fs,∃i t,f=.int i t
 | [],[],_=>⟨[],.nil,rfl,λzw h=>by cases h⟩
 | [],_::_,x=>by have:=x.1; cases this
 | _::_,[],x=>by have:=x.1; cases this
 | v::vs,t::ts,x=>by
  obtain⟨fs,h1,h2,h3⟩:=j6 (h:=h) (vs:=vs) (ts:=ts) ⟨Nat.succ.inj x.1,λi hi=>x.2 (i+1) (Nat.succ_lt_succ hi)⟩
  obtain⟨a,n,t1,t2,t3,e,h4⟩:=x.2 0 (Nat.succ_pos _)
  have e:v=.ref a:=e
  subst e
  exact⟨.int t.1 t1::fs,.cons h4 rfl rfl rfl h1,congrArg (·+1) h2,λf hf=>by
   rcases List.mem_cons.mp hf with rfl | hf
   ·exact⟨_,_,rfl⟩
   ·exact h3 f hf⟩
section
variable {prog:Program} {w:World}
theorem wZ {vs:List Value}{ts:List Tri}{R:PySem.Fin->Shared->Prop}(ho:s.heap.get? a=some (seqObj "list" vs.toArray n))(hT:TupsAt s.heap vs ts)(ok:TriOk ts)(h2:2<=ts.length)(h64:ts.length < 64)
  (h:∀p:Array Nat,PermN ts.length p->p.toList.map (λi=>ts.getD i (0,0,0))=oU ts->R (.done (.ret .none)) { s with heap:=sortedHeap s.heap a vs (p.toList.map λi=>vs.getD i Value.none).toArray }) :
  wpAny (model prog w) A (Builtin.«list.sort» ⟨[.ref a],[]⟩) R E s:=by
 have hlen:=hT.1
 rw [list_sort_plain]
 have ha:a < s.heap.objs.size:=Heap.lt_size ho
 refine wpAny_bind (listItems_at ho rfl ?_)
 refine wpAny_bind (listUpdate_at ho rfl ?_ (by rw [List.size_toArray,sizeLine_eq]; omega) (Nat.zero_le _))
 obtain⟨e1,ho1⟩:∃e1,(s.heap.update a (Obj.mapSeq λzw=>(#[]:Array Value))).get? a=some (seqObj "list" #[] e1):=⟨_,get?_update_seq ho (λzw=>#[])⟩
 refine wpAny_bind (seqEpoch_at ho1 rfl ?_)
 refine wpAny_bind (wpAny_newTuple ?_ (by show vs.length<=_; rw [sizeLine_eq]; omega))
 refine wpAny_bind (wpAny_newList ?_ (Nat.zero_le _))
 refine wpAny_holding ?_
 have ho6:(((s.heap.update a (Obj.mapSeq λzw=>#[])).push (seqObj "tuple" vs.toArray 0)).push (seqObj "list" #[] 0)).get? a=some (seqObj "list" #[] e1):=by
  rw [Heap.get?_push_ne _ _ _ (by rw [size_push',Heap.size_update]; exact Nat.ne_of_lt (Nat.lt_succ_of_lt ha)),Heap.get?_push_ne _ _ _ (by rw [Heap.size_update]; exact Nat.ne_of_lt ha)]
  exact ho1
 have hT6:TupsAt (((s.heap.update a (Obj.mapSeq λzw=>#[])).push (seqObj "tuple" vs.toArray 0)).push (seqObj "list" #[] 0)) vs ts:=hT.keeps λb ws m hb=>by
  have hb:s.heap.get? b=_:=hb
  have hba:b≠a:=λz=>by
   rw [z,ho] at hb
   have:=congrArg Obj.cls (Option.some.inj hb)
   injection this with h
   exact absurd h (by decide)
  exact Heap.get?_push_of_some _ (Heap.get?_push_of_some _ (by rw [Heap.get?_update_ne _ _ _ _ hba]; exact hb))
 show wpAny (model prog w) A _ R E { s with heap:=((s.heap.update a (Obj.mapSeq λzw=>#[])).push (seqObj "tuple" vs.toArray 0)).push (seqObj "list" #[] 0) }
 have fin:∀out:Array Value,R (.done (.ret .none)) { s with heap:=sortedHeap s.heap a vs out }=R (.done (.ret .none)) { s with heap:=(((s.heap.update a (Obj.mapSeq λzw=>#[])).push (seqObj "tuple" vs.toArray 0)).push (seqObj "list" #[] 0)).update a (Obj.mapSeq λzw=>out) }:=λzw=>rfl
 simp only [fin] at h
 generalize ((s.heap.update a (Obj.mapSeq λzw=>#[])).push (seqObj "tuple" vs.toArray 0)).push (seqObj "list" #[] 0)=h6 at ho6 hT6 h ⊢
 revert h
 revert hT6
 revert ho6
 revert h6
 refine id ?_
 intro h6 ho6 hT6 h
 dsimp only
 have hn2:¬vs.toArray.size < 2:=by rw [List.size_toArray]; omega
 rw [if_neg hn2,if_neg hn2]
 obtain⟨fs,k1,k2,k3⟩:=j6 hT6
 refine wpAny_bind (kat_kind (s:={ s with heap:=h6 }) (T:=.type "int") k1 (by omega) (λv hv=>by obtain⟨i,t,rfl⟩:=k3 v hv; exact Looks.of_pure rfl) rfl ?_)
 have key:∀i j C (s':Shared),i < ts.length->j < ts.length->s'={ s with heap:=h6 }->(∀s'',s''={ s with heap:=h6 }->C (decide (dL (ts.getD i (0,0,0)) < dL (ts.getD j (0,0,0)))) s'')->kas_ask prog w A (tuples' true) vs i j C s':=λi j C s' hi hj e hC=>by
  subst e
  have b:∀i < ts.length,(ts.getD i (0,0,0)).2.1 < 5/\(ts.getD i (0,0,0)).2.2 < 5:=λi hi=>by
   rw [List.getD_eq_getElem?_getD,List.getElem?_eq_getElem hi]
   exact ok.b _ (List.getElem_mem hi)
  exact tup_lt (hT6.2 i hi) (hT6.2 j hj) (b i hi) (b j hj) (hC _ rfl)
 have A1:Ans (λi=>dL (ts.getD i (0,0,0))) ts.length (kas_sort ts.length) _:=ans_sort (λi j hi hj e=>ok.inj hi hj e) h2
 have W:=Ans.wp (cmp:=kas_ask prog w A (tuples' true) vs) (I:=λs'=>s'={ s with heap:=h6 }) key _ { s with heap:=h6 } rfl A1
 rw [<- hlen] at W
 refine wpAny_bind (wpAny_mono (kat_run (Q:=λst' s'=>∃p:Array Nat,p.size=vs.length/\arrOf st'=p.map (kas_item (vs.toArray.zip vs.toArray))/\failedOf st'=none/\((PermN vs.length p/\oI (λi=>dL (ts.getD i (0,0,0))) p vs.length)/\s'={ s with heap:=h6 }))
  rfl (by omega) (by omega) (λp' st' s' a1 a2 a3 a4=>⟨p',a1,a2,a3,a4⟩) W) ?_ λzw zw e=>e)
 rintro⟨⟨⟩,st'⟩ s' ⟨p,hp,har,hf,⟨hq1,hq2⟩,rfl⟩
 dsimp only
 have hout:=kat_snds rfl har
 have hsz:(List.toArray (p.toList.map λi=>vs.getD i Value.none)).size=vs.length:=by rw [List.size_toArray,List.length_map,Array.length_toList,hp]
 rw [hout]
 refine wpAny_bind (seqEpoch_at ho6 rfl ?_)
 refine wpAny_bind (listUpdate_at ho6 rfl ?_ (Nat.zero_le _) (Nat.le_trans (Nat.le_of_eq hsz) (by rw [sizeLine_eq]; grind)))
 rw [hf]
 simp only [bne_self_eq_false,Bool.false_eq_true,if_false]
 rw [hlen] at hq1 hq2
 exact wpAny_pure (h p hq1 (wY ok hq1 hq2))
theorem qM {l:Addr}{vs:List Value}{ts:List Tri}(hl:s.heap.IsList l vs.toArray)(hT:TupsAt s.heap vs ts)(ok:TriOk ts)(h2:2<=ts.length)(h64:ts.length < 64)
  (h:∀p:Array Nat,PermN ts.length p->p.toList.map (λi=>ts.getD i (0,0,0))=oU ts->Q (.ref (s.heap.objs.size+1)) { s with heap:=sortedAll s.heap vs (p.toList.map λi=>vs.getD i Value.none).toArray }) :
  wpAny (model prog w) A (call (.builtin "sorted") [.ref l]) Q E s:=by
 have hlen:=hT.1
 refine Calls.call_function_entry kind_sorted plain_sorted entry_sorted (args_sorted1 _) ?_
 unfold Builtin.«sorted»
 refine wpAny_bind (m:=checkCount "sorted" 1 1 _) (wpAny_pure ?_)
 ((show let Q0:=_; let E0:=_; wpAny _ _ _ Q0 E0 _); intro Q0 E0)
 refine wpAny_bind (collect_list hl ?_ (by rw [sizeLine_eq]; omega))
 refine wpAny_bind (wpAny_newList ?_ (by rw [sizeLine_eq]; omega))
 have hsz:((s.heap.push (seqObj "list" #[] 0)).update s.heap.objs.size (Obj.mapSeq (·++vs.toArray))).objs.size=s.heap.objs.size+1:=by
  rw [Heap.size_update,size_push']
 have hoL:(((s.heap.push (seqObj "list" #[] 0)).update s.heap.objs.size (Obj.mapSeq (·++vs.toArray))).push (seqObj "list" vs.toArray 0)).get? (s.heap.objs.size+1)=some (seqObj "list" vs.toArray 0):=by
  rw [<- hsz]; exact Heap.get?_push_size _ rfl
 have hT2:TupsAt (((s.heap.push (seqObj "list" #[] 0)).update s.heap.objs.size (Obj.mapSeq (·++vs.toArray))).push (seqObj "list" vs.toArray 0)) vs ts:=hT.keeps λb ws m hb=>by
  have hlt:b < s.heap.objs.size:=Heap.lt_size hb
  exact Heap.get?_push_of_some _ (by rw [Heap.get?_update_ne _ _ _ _ (Nat.ne_of_lt hlt)]; exact Heap.get?_push_of_some _ hb)
 show wpAny _ _ _ _ _ { s with heap:=((s.heap.push (seqObj "list" #[] 0)).update s.heap.objs.size (Obj.mapSeq (·++vs.toArray))).push (seqObj "list" vs.toArray 0) }
 rw [hsz]
 refine wpAny_bind (wpAny_holding (wpAny_call_entry slot_list_sort ⟨_,hoL,rfl⟩ entry_list_sort (wZ hoL hT2 ok h2 h64 λp a1 a2=>⟨_,rfl,?_⟩) (args_list_sort _)))
 exact wpAny_pure ⟨_,rfl,h p a1 a2⟩
end
theorem sH {O M:Avoid}{h:Heap}{k:Nat}{vs:List Value}{ts:List Tri}(r:Rds O M h k vs (ts.map tupD)):∀(p:List Nat),(∀i∈p,i < ts.length)->Rds O M h k (p.map λi=>vs.getD i Value.none) ((p.map λi=>ts.getD i (0,0,0)).map tupD)
 | [],_=>.nil
 | i::p,hp=>by
  have hi:=hp i (List.mem_cons_self ..)
  obtain⟨v,h1,h2⟩:=r.get (i:=i) (d:=tupD (ts.getD i (0,0,0))) (by rw [List.getElem?_map,List.getElem?_eq_getElem hi,List.getD_eq_getElem?_getD,List.getElem?_eq_getElem hi]; rfl)
  refine .cons ?_ (sH r p λj hj=>hp j (List.mem_cons_of_mem _ hj))
  show Rd O M h k (vs.getD i Value.none) (tupD (ts.getD i (0,0,0)))
  rw [List.getD_eq_getElem?_getD,h1]
  exact h2
theorem jP {ks:Nat}{ts:List Tri}(ok:TriOk ts)(h2:2<=ts.length)(hl:ts.length < 64)(hk:ks<=k):aZ g n (.builtin "sorted") [.list (ts.map tupD)] ks (.list ((oU ts).map tupD)) k:=λO M A s E vs u r aO aM rs=>by
 obtain⟨v,rfl,ra⟩:=rs.one_inv
 obtain⟨l,us,m,rfl,g1,g2,g3,g4,g5⟩:=bC ra
 refine qM (IsL.isList g2) (tups_of g3) ok h2 hl λp a1 a2=>?_
 obtain⟨c,hc⟩:=sortedAll_at s.heap us.toList (p.toList.map λi=>us.toList.getD i Value.none).toArray
 have nO:∀b:Addr,@LE.le Nat _ s.heap.objs.size b->¬O b/\¬M b:=λb hb=>⟨λz=>by obtain⟨o,e⟩:=aO _ z; exact absurd (Heap.lt_size e) (Nat.not_lt.mpr hb),λz=>by obtain⟨o,e⟩:=aM _ z; exact absurd (Heap.lt_size e) (Nat.not_lt.mpr hb)⟩
 have h1:=nO (s.heap.objs.size+1:Nat) (Nat.le_add_right _ 1)
 have rl:=((sH g3 p.toList λi hi=>by
  have:=a1.perm.mem_iff.mp hi
  exact List.mem_range.mp this).keeps (h':=sortedAll s.heap us.toList (p.toList.map λi=>us.toList.getD i Value.none).toArray) λb o e=>sortedAll_old e).le (k':=k - 1) (Nat.sub_le_sub_right hk 1)
 rw [a2] at rl
 refine⟨d4 (tk:=s.toks) λb o e=>sortedAll_old e,.list h1.1 (λzw=>h1.2) ?_ hc rl⟩
 have:=rl.length
 rw [List.length_map,List.length_map,(bX ts).length_eq] at this
 rw [List.size_toArray,List.length_map,this]
 exact Nat.le_trans (Nat.le_of_lt hl) (by decide)
end
set_option backward.match.sparseCases false
noncomputable def codeL (l:List Nat):Option Nat:=(List.range 27).find? λn=>cT n==l
theorem mQ:∀n < 27,codeL (cT n)=some n:=by decide +kernel
theorem gF {l:List Nat}(h:codeL l=some n):n < 27/\cT n=l :=
 ⟨List.mem_range.mp (List.mem_of_find?_eq_some h),eq_of_beq (List.find?_some (p:=λn=>cT n==l) h)⟩
noncomputable def ap2 (x y:Str):Option D:=(codeL x.cps.toList).bind λa=>(codeL y.cps.toList).bind λb=>some (.int (apF a b))
noncomputable abbrev apEnt:Ent:=("_law_apart",one2 (λzw=>none) λa b=>(vZ a b).bind λp=>ap2 p.1 p.2)
theorem tL {a b:Nat}(ha:a < 27)(hb:b < 27):ap2 (S (cT a)) (S (cT b))=some (.int (apF a b)) :=
 (bO (mQ a ha)).trans ((bO (mQ b hb)).trans rfl)
section
theorem apE_ok (G:Gr1 g P)(hn:1<=n):EntOk g (n+1) apEnt:=by
 have hK:(K1 P).lookup 178=some _:=rfl
 rw [<- G.k] at hK
 refine⟨.ref 178,.fn (by rw [G.k]; rfl) hK,λds d h=>kN (P:=λds=>aZ g (n+1) (.ref 178) ds 0 d 0) h (λzw h=>no h) λa b h=>bd h λp hp h=>j1 (P:=λa b=>aZ g (n+1) (.ref 178) [a,b] 0 d 0) hp ?_⟩
 refine bd h λx hx h=>bd h λy hy h=>sm (P:=λd=>aZ g (n+1) (.ref 178) [.str p.1,.str p.2] 0 d 0) h ?_
 obtain⟨h1,h2⟩:=gF hx
 obtain⟨h3,h4⟩:=gF hy
 rw [S_of h2.symm,S_of h4.symm]
 exact wA G hn h1 h3
end
noncomputable abbrev TJ:Tab:=tabOf [apEnt]
noncomputable def joB:List Stmt:=(fnOf "_law_joined").1
noncomputable def joN:List (Str×NameKind):=(fnOf "_law_joined").2.1
theorem jo1 (P:Params):∃c,FnK (K1 P) 188 joB joN ["words"] c :=
 ⟨_,⟨_,_,_,_,rfl,⟨rfl,rfl,rfl,rfl,rfl,rfl⟩,rfl,by kernel_rfl,rfl,rfl,fB λzw=>rfl⟩,rfl⟩
noncomputable abbrev fE (ws:List Nat):D:=.list (ws.map λn=>.str (S (cT n)))
noncomputable def tW (ws:List Nat) (a b:Nat):Int:=apF (ws.getD a 0) (ws.getD b 0)
theorem iF {ws:List Nat}{i:Nat}(h:i < ws.length):idxD (fE ws) (i:Int)=some (.str (S (cT (ws.getD i 0)))):=by
 refine gZ ?_
 rw [List.getElem?_map,List.getD_eq_getElem?_getD,List.getElem?_eq_getElem h]; rfl
theorem nV {ws:List Nat}(h:∀n∈ws,n < 27)(i:Nat):ws.getD i 0 < 27:=by
 rw [List.getD_eq_getElem?_getD]
 cases e:ws[i]? with
 | none=>show 0 < 27; decide
 | some x=>exact h x (List.mem_of_getElem? e)
theorem r_tup {T:Tab}{es:List Expr}{vs:List DK}(hk:T.hook V (.Tuple es k p)=none)(hs:es.all aQ=true)(h:mapO ((Ev.at T n).e V) es=some vs)(h0:lvl0 vs=true/\vs.length<=cap):(Ev.at T (n+1)).e V (.Tuple es k p)=some (.tuple (vs.map (·.1)),0):=by
 exact fW hk (show seqE (Ev.at T n) V .tuple es=_ from(if_pos hs).trans ((bO h).trans (if_pos h0)))
theorem s_comp2 {R:Ev}{X:Rho->List Stmt->Option (Fl×Rho)}{target' iter':Expr}{ifs ifs':List Expr}{scope:Scope}(hx:stOk V x=true)(hs:cE V scope x np cp=true)(h:mO R V elt target iter ifs target' iter' ifs' scope=some (d,0)):bB R X V (.Assign [.Name x np] (.ListComp elt [⟨target,iter,ifs,0⟩,⟨target',iter',ifs',0⟩] scope cp) p)=some (.next,V.put x d 0):=by
 exact(show uU (if stOk V x=true then put0 V x (if cE V scope x np cp=true then mO R V elt target iter ifs target' iter' ifs' scope else R.e V (.ListComp elt [⟨target,iter,ifs,0⟩,⟨target',iter',ifs',0⟩] scope cp)) else none)=_ from bO (show(if stOk V x=true then put0 V x (if cE V scope x np cp=true then mO R V elt target iter ifs target' iter' ifs' scope else R.e V (.ListComp elt [⟨target,iter,ifs,0⟩,⟨target',iter',ifs',0⟩] scope cp)) else none)=some (V.put x d 0) from(if_pos hx).trans (by rw [if_pos hs]; exact(gV h).trans rfl)))
theorem pD:∀k:Nat,k < 5->bF 0 (k:Int) 1=a7 (List.range k):=lt5c (P:=λk:Nat=>bF 0 (k:Int) 1=a7 (List.range k)) rfl rfl rfl rfl rfl
theorem xD:∀k:Nat,k < 5->fL 0 (k:Int) 1=true:=lt5c (P:=λk:Nat=>fL 0 (k:Int) 1=true) rfl rfl rfl rfl rfl
theorem iU {z:Int}(h:z∈a7 (List.range k)):∃i,i < k/\z=(i:Int):=by
 unfold a7 at h
 obtain⟨i,hi,rfl⟩:=List.mem_map.mp h
 exact⟨i,List.mem_range.mp hi,rfl⟩
theorem mC (T:Nat->Nat->Int):(kM T).map tupD=((a7 (List.range 5)).map λe=>((a7 (List.range e.toNat)).map λs=>[tupD (T s.toNat e.toNat,s.toNat,e.toNat)]).flatten).flatten:=rfl
theorem uM {ws:List Nat}{X:Rho->List Stmt->Option (Fl×Rho)}(h5:ws.length=5)(h27:∀n∈ws,n < 27)(H:Has joN [("words",fE ws)] V):bB (Ev.at TJ 12) X V (joB.getD 0 noSt)=some (.next,V.put "pairs" (.list ((kM (tW ws)).map tupD)) 0):=by
 have hw:=H.is "words" _ rfl
 rw [mC]
 conv in joB.getD 0 noSt=>whnf
 refine s_comp2 (H.st rfl) (H.swaps rfl) (zV (items:=(a7 (List.range 5)).map .int) rfl rfl ⟨rfl,rfl,rfl,H.free rfl,rfl,rfl,rfl⟩ (eV (H.glob rfl) rfl (bQ rfl) rfl) (cL λe he=>?_) ?_)
 ·obtain⟨k,hk,rfl⟩:=iU he
  refine rH (items:=(a7 (List.range k)).map .int) ((eV rfl rfl (aC rfl rfl bS) (xD k hk)).trans (by rw [pD k hk])) (cL λs hs=>?_)
  obtain⟨i,hi,rfl⟩:=iU hs
  refine cD ((r_tup (vs:=[(.int (tW ws i k),0),(.int (i:Int),0),(.int (k:Int),0)]) rfl rfl (mF (r_fn (vs:=[(.str (S (cT (ws.getD i 0))),0),(.str (S (cT (ws.getD k 0))),0)]) rfl rfl rfl (dM (r_ix rfl rfl (aC rfl rfl (aX (aX (aV rfl hw) rfl) rfl)) (aC rfl rfl bS) (iF (by omega))) (r_ix rfl rfl (aC rfl rfl (aX (aX (aV rfl hw) rfl) rfl)) (aC rfl rfl (aX bS rfl)) (iF (by omega)))) rfl rfl rfl rfl ((bO rfl).trans (tL (nV h27 i) (nV h27 k)))) (aC rfl rfl bS) (aC rfl rfl (aX bS rfl))) ⟨rfl,by show 3<=cap; decide⟩).trans rfl)
 ·rw [<- mC,List.length_map]
  show 10<=cap; decide
theorem rd_grow {W N:Avoid}(rv:Rd O No s.heap 0 v d)(k:Keeps s s')(wo:∀b,W b->O b)(hn:∀b,N b->s.heap.get? b=none):Rd (λb=>O b\/(W b\/N b)) No s'.heap 0 v d :=
 (rv.imp (O':=λb=>O b\/(W b\/N b)) (M':=No) (λb hb h z=>by
  rcases z with z | z | z
  ·exact h z
  ·exact h (wo b z)
  ·rw [hn b z] at hb; cases hb) (λzw zw zw h=>h) (Nat.le_refl 0)).keeps (aA k)
theorem eO (T:Nat->Nat->Int):TriOk (kM T):=by
 refine⟨λt ht=>?_,?_⟩
 ·obtain⟨p,hp,rfl⟩:=List.mem_map.mp ht
  have:=sI p hp
  exact⟨Nat.lt_trans this.1 this.2,this.2⟩
 ·show((prs10.map (triOf T)).map λt=>t.2).Nodup
  rw [List.map_map]
  show(prs10.map id).Nodup
  rw [List.map_id]
  decide +kernel
noncomputable def dJ (T:Nat->Nat->Int):List Tri:=oU (kM T)
theorem sB (T:Nat->Nat->Int):Steps T (dJ T):=⟨λt=>(bX _).mem_iff,(jK _).imp_of_mem λ{x y} hx hy h=>by
 have hb:=(eO T).b
 have by':=hb y ((bX _).mem_iff.mp hy)
 unfold dL at h
 omega⟩
theorem zero_row:∀{g:Glob} {n:Nat} (V:Rho) {p1 p2 p3 p4:Pos} {c1 c2:Nat},EvF g n V (.BinOp (.List [.Constant (.int 0) c1 p1] p2) .Mult (.Constant (.int 5) c2 p3) p4) (([0,0,0,0,0]:List Int).map .int):=λ{g n} V {p1 p2 p3 p4 c1 c2} =>
 zI (xs:=[0]) (z:=5) (ka:=1) (kb:=0) (jB (cQ (eK (i:=0)) dX rfl) (by decide)) eK (by decide) (by decide) (by decide)
theorem Run.startGH {W:Avoid}{e1:Expr}{c1 c2:Nat}{p1 p2 p3 p4 p5 p6 p7 p8 p9:Pos}{k9:Nat}{scope:Scope}{K:Value->Value->Shared->Prop}(G:Gr1 c.g P)(hn:1<=c.n)(r:Run c O No W V s)(h1:(Ev.at T0 12).e V e1=some (natD g0,0))(hr:V.sc.lookup ("range":Str)=some .globalImplicit)(hk:scope.kind=.function)(hf:bW ⟨V.sc,[]⟩ scope.names=true)(hi:bR scope.names [x]=true)
  (q:∀v a bs s',Run c (λb=>O b\/(W b\/b∈a::bs)) No (λb=>W b\/b∈a::bs) V s'->(∀b o,W b->s.heap.get? b=some o->s'.heap.get? b=some o)->Nest s'.heap a bs (tabL λzw zw=>0)->(∀b∈a::bs,s.heap.get? b=none)->Rd (λb=>O b\/(W b\/b∈a::bs)) No s'.heap 0 v (natD g0)->K v (.ref a) s') :
  wpAny c.g.M c.Ar (eval e1 c.env) (λv1 s_1=>wpAny c.g.M c.Ar (eval (.ListComp (.BinOp (.List [.Constant (.int 0) c1 p1] p2) .Mult (.Constant (.int 5) c2 p3) p4) [⟨.Name x p5,.Call (.Name "range" p6) [.Constant (.int 5) k9 p7] [] p8,[],0⟩] scope p9) c.env) (K v1) E s_1) E s:=by
 have ok0:(Ev.at T0 12).Ok c.g c.n:=dH hn G.names fR 12
 refine r.evG (ok0.e _ _ _ _ h1) λv1 s_1 k1 rv1 r1=>?_
 refine r1.compNest (x0:=[0,0,0,0,0]) hk hf hi (dA (k:=0) (b:=5) G.names.range hr eK rfl rfl) rfl (λV'=>zero_row V') (by decide) λa bs s2 k2 N2 fr r2=>?_
 have hz:∀b∈a::bs,s.heap.get? b=none:=λb hb=>by
  cases h:s.heap.get? b with
  | none=>rfl
  | some o=>have:=aA k1 _ _ h; rw [fr b hb] at this; cases this
 exact q v1 a bs s2 (r1.growN (N:=λb=>b∈a::bs) k2 fr N2.alloc) (λb o zw e=>aA k2 _ _ (aA k1 _ _ e)) N2 hz (rd_grow rv1 k2 r1.wo fr)
structure JoJ (st:List Tri) (a:Addr) (bs:List Addr) (i:Nat) (W:Avoid) (V:Rho) (s:Shared):Prop where
 ww:∀b,W b↔b∈a::bs
 ns:Nest s.heap a bs (tabL (((st.take i).foldl fU (g0,λzw zw=>0)).2))
 len:((st.take i).foldl fU (g0,λzw zw=>0)).1.length=5
 nm:Has joN [("groups",natD ((st.take i).foldl fU (g0,λzw zw=>0)).1),("heights",objD a)] V
theorem JoJ.stays {st:List Tri}{bs:List Addr}{i:Nat}{W:Avoid}(J:JoJ st a bs i W V s)(k:∀b o,W b->s.heap.get? b=some o->s'.heap.get? b=some o):JoJ st a bs i W V s' :=
 ⟨J.ww,J.ns.keeps λb o hb=>k b o ((J.ww b).mpr hb),J.len,J.nm⟩
noncomputable def joFor:Stmt:=joB.getD 2 noSt
theorem yQ {W:Avoid}{g:List Nat}{H:Nat->Nat->Int}{bs:List Addr}{t:Tri}{Q:Flow->Shared->Prop}(G:Gr1 c.g P)(hn:2<=c.n)(r:Run c O No W V s)(hg:g.length=5)(hb:t.2.1 < 5/\t.2.2 < 5)(hW:∀b,W b↔b∈a::bs)(Ns:Nest s.heap a bs (tabL H))
  (Hn:Has joN [("end",.int (t.2.2:Int)),("start",.int (t.2.1:Int)),("height",.int t.1),("groups",natD g),("heights",objD a)] V)
  (q:∀O' V' s',Run c O' No W V' s'->Nest s'.heap a bs (tabL (fU (g,H) t).2)->(fU (g,H) t).1.length=5->Has joN [("groups",natD (fU (g,H) t).1),("heights",objD a)] V'->Q .next s'):wpAny c.g.M c.Ar (execs (fJ joFor) c.env) Q E s:=by
 have K:=G.k
 have k183:keepIn c.g.K (.ref 183)=true:=by rw [K]; kernel_rfl
 have ok0:(Ev.at T0 12).Ok c.g c.n:=dH (by (exact Nat.le_of_lt (by assumption))) G.names fR 12
 have hgr:=Hn.is "groups" _ rfl
 have hhe:=Hn.is "heights" _ rfl
 have hst:=Hn.is "start" _ rfl
 have hen:=Hn.is "end" _ rfl
 have hhi:=Hn.is "height" _ rfl
 conv in fJ joFor=>whnf
 refine wpAny_execs_cons (wpAny_If (r.testG (b:=!(at5 g t.2.1==at5 g t.2.2)) (ok0.t _ _ _ (cU rfl (r_ix rfl rfl (aC rfl rfl hgr) (aC rfl rfl hst) (cZ (by rw [hg]; exact hb.1))) (r_ix rfl rfl (aC rfl rfl hgr) (aC rfl rfl hen) (cZ (by rw [hg]; exact hb.2))) (by rw [<- i9]; rfl))) λs_1 k1 r1=>?_))
 have N1:=Ns.keeps (h':=s_1.heap) λb o zw=>aA k1 b o
 by_cases hne:at5 g t.2.1=at5 g t.2.2
 ·have e:fU (g,H) t=(g,H):=if_pos hne
  rw [e] at q
  rw [hne,beq_self_eq_true]
  refine(if_neg (by decide)).mpr (wpAny_execs_nil (wpAny_execs_nil (q _ _ _ r1 N1 hg ⟨Hn.sc,λx d hx=>?_⟩)))
  have:=PySem.mem_of_lookup hx
  simp only [List.mem_cons,List.not_mem_nil,or_false,Prod.mk.injEq] at this
  rcases this with ⟨rfl,rfl⟩ | ⟨rfl,rfl⟩
  ·exact hgr
  ·exact hhe
 ·have e:fU (g,H) t=(b7 g (at5 g t.2.1) (at5 g t.2.2),kR g H (at5 g t.2.1) (at5 g t.2.2) t.1):=if_neg hne
  rw [e] at q
  rw [beq_eq_false_iff_ne.mpr hne]
  refine(if_pos rfl).mpr (wpAny_execs_cons (r1.assignS rfl (Call_ (bG (v:=.ref 183) r1.act.up r1.act.eo (Hn.glob rfl) (by show nsIn c.g.K _ _=_; rw [K]; rfl) (by decide) (callWith_K r1.now k183 ?_)))))
  ((show let Q0:=_; wpAny _ _ _ Q0 _ _); intro Q0)
  refine wpAny_items_cons (r1.name hgr (by decide) λv1 rv1=>?_) rfl
  refine wpAny_items_cons (r1.nameA hhe (by decide) ?_) rfl
  refine wpAny_items_cons (r1.evG (d:=.int ((at5 g t.2.1:Nat):Int)) (k:=0) (ok0.e _ _ _ _ (r_ix rfl rfl (aC rfl rfl hgr) (aC rfl rfl hst) (cZ (by rw [hg]; exact hb.1)))) λv3 s3 k3 rv3 r3=>?_) rfl
  refine wpAny_items_cons (r3.evG (d:=.int ((at5 g t.2.2:Nat):Int)) (k:=0) (ok0.e _ _ _ _ (r_ix rfl rfl (aC rfl rfl hgr) (aC rfl rfl hen) (cZ (by rw [hg]; exact hb.2)))) λv4 s4 k4 rv4 r4=>?_) rfl
  refine wpAny_items_cons (r4.name hhi (by decide) λv5 rv5=>wpAny_items_nil ⟨r4.now,?_⟩) rfl
  have N4:=N1.keeps (h':=s4.heap) λb o zw e=>aA k4 _ _ (aA k3 _ _ e)
  have rv1':=(rv1.keeps (aA k3)).keeps (aA k4)
  obtain⟨m,hm⟩:∃m,c.n=m+2:=⟨c.n - 2,by omega⟩
  refine wpAny_call (pP (n:=m) G (hm ▸ r4.at) hg rv1' N4 hW (rv3.keeps (aA k4)) rv4 rv5 λv s5 ef N5 rv=>?_)
  have r5:=r4.effE ef
  refine r5.store (Hn.st rfl) rv λs6 c6 r6=>wpAny_execs_nil (wpAny_execs_nil (q _ _ s6 r6 (N5.keeps λb o hb=>r5.same c6 b o ((hW b).mpr hb)) (by rw [fS]; exact hg) ⟨Hn.sc,λx d hx=>?_⟩))
  have:=PySem.mem_of_lookup hx
  simp only [List.mem_cons,List.not_mem_nil,or_false,Prod.mk.injEq] at this
  rcases this with ⟨rfl,rfl⟩ | ⟨rfl,rfl⟩
  ·exact Rho.is_put
  ·exact Rho.is_ne hhe rfl
theorem Run.outNest {W:Avoid}{bs:List Addr}{H:Nat->Nat->Int}(r:Run c O No W V s)(Ns:Nest s.heap a bs (tabL H))(hW:∀b∈a::bs,W b)(cW:∀b,¬c.W b)(cO:Alloc c.O c.s)(cM:Alloc c.M c.s):Rd c.O c.M s.heap 0 (.ref a) (dF (tabL H)):=by
 have hs0:∀b∈a::bs,c.s.heap.get? b=none:=λb hb=>(r.ww b (hW b hb)).elim (λh=>absurd h (cW b)) id
 exact Ns.rd λb hb=>⟨λz=>(by obtain⟨o,e⟩:=cO _ z; rw [hs0 b hb] at e; cases e),λz=>(by obtain⟨o,e⟩:=cM _ z; rw [hs0 b hb] at e; cases e)⟩
theorem wL {l:List Tri}{i:Nat}(h:(l.map tupD)[i]?=some d):∃t,l[i]?=some t/\d=tupD t:=by
 rw [List.getElem?_map,Option.map_eq_some_iff] at h
 obtain⟨t,h1,h2⟩:=h
 exact⟨t,h1,h2.symm⟩
theorem rB {ws:List Nat}(G:Gr1 g P)(at_:At g (n+4) A O M No F s)(rv:Rd O M s.heap 0 v (fE ws))(h5:ws.length=5)(h27:∀n∈ws,n < 27)
  (q:∀v s',Cx No F s s'->Rd O M s'.heap 0 v (dF (tabL (rC (dJ (tW ws)))))->R (.ok (.ret v)) s'):codeAny g.M A (.call (.ref 188) ⟨[v],[]⟩) R s:=by
 obtain⟨cc,fk⟩:=jo1 P
 rw [<- G.k] at fk
 refine eY (n:=n+3) (ds:=[fE ws]) at_ fk (.cons rv .nil) rfl rfl rfl λenv Pp O' s2 r hc hk=>?_
 revert r
 (show let c:Fx:=_; Run c _ _ _ _ _->_)
 intro c r
 ((show let Q0:=_; wpAny _ _ _ Q0 _ _); intro Q0)
 have Hn:Has joN [("words",fE ws)] ((⟨joN,[]⟩:Rho).put "words" (fE ws) 0):=(show Has joN [] ⟨joN,[]⟩ from⟨rfl,λzw zw h=>by cases h⟩).put
 generalize ((⟨joN,[]⟩:Rho).put "words" (fE ws) 0)=V at Hn r
 have hn:2<=c.n:=by show 2<=n+3; (simp +arith)
 have hB:joB=[joB.getD 0 noSt,joB.getD 1 noSt,joB.getD 2 noSt,joB.getD 3 noSt]:=rfl
 rw [hB]
 have okJ:(Ev.at TJ 12).Ok c.g c.n:=dH (by omega) G.names (m6 λe he=>by
  cases List.mem_singleton.mp he
  exact apE_ok (n:=n+2) G (by (simp +arith))) 12
 refine r.pureH (m:=2) Hn okJ (uM h5 h27 Hn) λV1 s_1 kp1 r1 H1=>?_
 ((show let Q0:=_; let E0:=_; wpAny _ _ _ Q0 E0 _); intro Q0 E0)
 have hp1:=H1.is "pairs" _ rfl
 generalize tW ws=T at hp1 H1 q
 have step1:∀{Q:Flow->Shared->Prop} {E:Value->Shared->Prop},(∀O3 a bs V3 s3,Run c O3 No (λb=>No b\/b∈a::bs) V3 s3->Nest s3.heap a bs (tabL λzw zw=>0)->Has joN [("pairs",.list ((kM T).map tupD)),("groups",natD g0),("heights",objD a)] V3->Q .next s3)->wpAny g.M (A.deeper env) (exec (joB.getD 1 noSt) env) Q E s_1:=λ{Q E} q0=>by
  obtain⟨sk1,sk2⟩:=swK r1 H1.sc
  conv in joB.getD 1 noSt=>whnf
  refine Run.assignSw (c:=c) (V:=V1) r1.rm.handled ?_ rfl rfl (H1.st rfl) (H1.st rfl) (r1.startGH (c:=c) G (by omega) rfl (H1.glob rfl) rfl (by rw [H1.sc]; rfl) rfl λv a bs s2' r2 zw N2 fr rv2=>⟨_,_,_,_,r2,rv2,.obj,λs3 r3 kp=>?_⟩)
  ·delta swappedStores
   rw [sk1,sk2]
   rfl
  ·exact q0 _ a bs _ s3 r3 (N2.keeps λb o hb=>kp b o (.inr hb)) ⟨H1.sc,λx d hx=>by
    have:=PySem.mem_of_lookup hx
    simp only [List.mem_cons,List.not_mem_nil,or_false,Prod.mk.injEq] at this
    rcases this with ⟨rfl,rfl⟩ | ⟨rfl,rfl⟩ | ⟨rfl,rfl⟩
    ·exact Rho.is_ne (Rho.is_ne hp1 rfl) rfl
    ·exact Rho.is_put
    ·exact Rho.is_ne Rho.is_put rfl⟩
 refine wpAny_execs_cons (step1 λO3 a bs V3 s3 r3 N3 H3=>?_)
 have hps:=H3.is "pairs" _ rfl
 have step2:∀{Q:Flow->Shared->Prop} {E:Value->Shared->Prop},(∀O4 W4 V4 s4,Run c O4 No W4 V4 s4->JoJ (dJ T) a bs 10 W4 V4 s4->Q .next s4)->wpAny g.M (A.deeper env) (exec (joB.getD 2 noSt) env) Q E s3:=λ{Q E} q0=>by
  have hl:(dJ T).length=10:=(bX _).length_eq
  conv in joB.getD 2 noSt=>whnf
  refine r3.forL (items:=(dJ T).map tupD) (xs:=["height","start","end"]) rfl rfl (pS (lC (Callee.now _ (bt1 (x:="sorted") G.k rfl rfl (by decide))) (H3.glob rfl) (by decide) rfl (cQ (bE hps (by decide)) dX rfl) (jP (eO T) (by show 2<=10; decide) (by show 10 < 64; decide) (Nat.le_refl 0))) λzw=>?_)
   (λi W V s=>JoJ (dJ T) a bs i W V s) (λzw zw zw=>False) (λzw zw zw zw zw=>False) ?_ ⟨λb=>⟨λh=>h.elim False.elim id,.inr⟩,N3,rfl,⟨H3.sc,λx d hx=>?_⟩⟩ ?_ ?_ ?_ (λzw zw zw zw zw zw h=>h.elim) (λzw zw zw zw zw zw zw h=>h.elim)
  ·rw [List.all_map]
   exact List.all_eq_true.mpr λzw zw=>rfl
  ·rintro i W V s s' J k
   exact J.stays k
  ·have:=PySem.mem_of_lookup hx
   simp only [List.mem_cons,List.not_mem_nil,or_false,Prod.mk.injEq] at this
   rcases this with ⟨rfl,rfl⟩ | ⟨rfl,rfl⟩
   ·exact H3.is _ _ rfl
   ·exact H3.is _ _ rfl
  ·rintro i d W V s hd J
   obtain⟨t,_,rfl⟩:=wL hd
   exact⟨by rw [List.all_cons,List.all_cons,List.all_cons,J.nm.st (x:="height") rfl,J.nm.st (x:="start") rfl,J.nm.st (x:="end") rfl]; rfl,_,rfl⟩
  ·intro Z O0 t' i d O' W' V' V'' s' E' hd hbd J r'
   ((show let Q0:=_; wpAny _ _ _ Q0 _ _); intro Q0)
   refine wp_q λQ' hQ=>?_
   obtain⟨t,ht,rfl⟩:=wL hd
   have hbd:V''=((V'.put "height" (.int t.1) 0).put "start" (.int (t.2.1:Int)) 0).put "end" (.int (t.2.2:Int)) 0:=(Option.some.inj hbd).symm
   subst hbd
   have htb:=(eO T).b t ((bX _).mem_iff.mp (List.mem_of_getElem? ht))
   have est:((dJ T).take (i+1)).foldl fU (g0,λzw zw=>0)=fU (((dJ T).take i).foldl fU (g0,λzw zw=>0)) t:=by
    rw [List.take_add_one,ht,List.foldl_append]; rfl
   obtain⟨J1,J2,J3,J4⟩:=J
   generalize ((dJ T).take i).foldl fU (g0,λzw zw=>0)=st at J2 J3 J4 est
   exact yQ (c:=c.prot Z O0 t') (g:=st.1) (H:=st.2) G hn r' J3 htb J1 J2 J4.put.put.put λO4 V4 s4 r4 N4 l4 H4=>hQ _ _ ⟨_,_,_,r4,J1,by rw [est]; exact N4,by rw [est]; exact l4,by rw [est]; exact H4⟩
  ·intro O1 W1 V1 s_1 hO r1 J
   rw [List.length_map,hl] at J
   exact q0 _ _ _ _ r1 J
 refine wpAny_execs_cons (step2 λO4 W4 V4 s4 r4 J_4=>?_)
 conv in joB.getD 3 noSt=>whnf
 refine wpAny_execs_cons (wpAny_Return_some (r4.nameA (J_4.nm.is "heights" _ rfl) (by decide) ?_))
 have N4:=J_4.ns
 have hl:(dJ T).length<=10:=Nat.le_of_eq (bX _).length_eq
 rw [List.take_of_length_le hl] at N4
 exact q _ s4 r4.cx (r4.outNest N4 (λb hb=>(J_4.ww b).mpr hb) (λzw h=>h) at_.aO at_.aM)
set_option backward.match.sparseCases true
section
theorem oC:entryFor table "proto.unchain"=some Builtin.«proto.unchain»:=entryFor_of_fast (by kernel_rfl)
section
variable {prog:Program} {w:World}
theorem raise_h {α:Type}{Q:α->Shared->Prop}{x e:Addr}{ox oe:Obj}{xs vs:Array Value}(hh:A.handled=some (.ref e))(hne:x≠e)(hx:s.heap.get? x=some ox)(hxd:ox.data=.fields xs)(hsz:2 < xs.size)(he:s.heap.get? e=some oe)(hed:oe.data=.fields vs)(hctx:vs[2]?=some .none)
  (h:E (.ref x) { s with heap:=s.heap.update x (Obj.mapFields (·.setIfInBounds 2 (.ref e))) }):wpAny (model prog w) A (raiseNew (.ref x):Sem α) Q E s:=by
 unfold raiseNew
 refine wpAny_bind (wpAny_handled ?_)
 rw [hh]
 show wpAny (model prog w) A (if (Value.ref e != Value.ref x)=true then (do
   let _ <- holding [Value.ref x] (runValue (Code.builtin "proto.unchain" ⟨[Value.ref x,Value.ref e,Value.ref e,Value.bool false],[]⟩))
   let _ <- setField (.ref x) 2 (.ref e)
   throw (Value.ref x)) else throw (Value.ref x)) Q E s
 rw [if_pos (by simp; exact λz=>hne z.symm)]
 refine wpAny_bind (wpAny_holding (wpAny_runValue (codeAny_builtin oC ?_)))
 unfold Builtin.«proto.unchain»
 show wpAny (model prog w) _ (field (.ref e) 2 >>= _) _ _ s
 refine wpAny_bind (wpAny_field he hed hctx ?_)
 rw [if_pos (by rfl)]
 refine wpAny_pure ?_
 exact wpAny_bind (wpAny_setField hx hxd hsz (wpAny_throw h))
theorem pK {it t e:Addr}{i:Nat}{items:Array Value}{oe:Obj}{vs:Array Value}{Q:Option Value->Shared->Prop}(hh:A.handled=some (.ref e))(he:s.heap.get? e=some oe)(hed:oe.data=.fields vs)(hctx:vs[2]?=some .none)(hie:e≠it)
  (hit:s.heap.IsTupleIter it t i) (ht:s.heap.IsTuple t items) (hx:items[i]?=none)
  (hQ:∀h',Heap.ExtBut it s.heap h'->Q none { s with heap:=h' }):wpAny (model prog w) A (pyNext (.ref it)) Q E s:=by
 obtain⟨o,ho,hc,hd⟩:=id hit
 obtain⟨ol,hol,_,nl,hdl⟩:=ht
 unfold pyNext
 refine wpAny_bind (wpAny_attempt (wpAny_callSpecial?_slot (name:=Str.ofString "__next__") hit.typeIs PySem.F.slot_tuple_iterator_next
  (wpAny_call_entry PySem.F.slot_tuple_iterator_next hit.typeIs PySem.F.entry_tuple_iterator_next ?_ (PySem.F.args_tuple_iterator_next_1 _))))
 show wpAny _ _ (field (.ref it) 0 >>= _) _ _ s
 refine wpAny_bind (wpAny_field ho hd (x:=.ref t) rfl ?_)
 show wpAny _ _ (if (Value.ref t==Value.none)=true then _ else _) _ _ s
 rw [if_neg (show ¬((Value.ref t==Value.none)=true) from Bool.false_ne_true)]
 show wpAny _ _ (field (.ref it) 1 >>= _) _ _ s
 refine wpAny_bind (wpAny_field ho hd (x:=.int i 0) rfl ?_)
 show wpAny _ _ (seqItems? (.ref t) >>= _) _ _ s
 refine wpAny_bind (wpAny_seqItems hol hdl ?_)
 simp only [Int.toNat_natCast,hx]
 refine wpAny_bind (wpAny_rule (wpAny_bind (wpAny_setField ho hd (by simp) ?_)))
 show wpAny _ _ (newExc (.type "StopIteration") [] >>= _) _ _ _
 refine wpAny_bind ?_
 simp only [newExc,newTuple]
 refine wpAny_bind (wpAny_newObj_type ?_ (by size_fits))
 refine wpAny_bind (m:=firstArgMember _ _) (wpAny_of_eq (a:=Value.none) (by first | rfl | (simp only [firstArgMember]; rfl)) ?_)
 refine wpAny_newObj_type ?_ (by size_fits)
 have eb:=((Heap.SameBut.update s.heap it (Obj.mapFields (·.setIfInBounds 0 Value.none))).extBut.push { cls:=Value.type "tuple",dict:=none,data:=.seq ([]:List Value).toArray })
 generalize hh2:(s.heap.update it (Obj.mapFields (·.setIfInBounds 0 Value.none))).push { cls:=Value.type "tuple",dict:=none,data:=.seq ([]:List Value).toArray }=h2 at eb
 show wpAny _ _ (raiseNew (.ref h2.objs.size)) _ _ { s with heap:=h2.push { cls:=Value.type "StopIteration",dict:=none,data:=.fields (#[Value.ref (s.heap.update it (Obj.mapFields (·.setIfInBounds 0 Value.none))).objs.size,Value.none,Value.none,Value.none,Value.bool false,Value.none]++ownMembersOf (Value.type "StopIteration") []) } }
 have he2:h2.get? e=some oe:=eb e oe hie he
 have hxe:h2.objs.size≠e:=Nat.ne_of_gt (Heap.lt_size he2)
 generalize hxs:(#[Value.ref (s.heap.update it (Obj.mapFields (·.setIfInBounds 0 Value.none))).objs.size,Value.none,Value.none,Value.none,Value.bool false,Value.none]++ownMembersOf (Value.type "StopIteration") [])=xs
 have hsz:2 < xs.size:=by rw [<- hxs,Array.size_append]; exact Nat.lt_of_lt_of_le (by decide:2 < 6) (Nat.le_add_right _ _)
 have hx3:(h2.push { cls:=Value.type "StopIteration",dict:=none,data:=.fields xs }).get? h2.objs.size=some { cls:=Value.type "StopIteration",dict:=none,data:=.fields xs }:=Heap.get?_push_size _ rfl
 refine raise_h (s:={ s with heap:=h2.push { cls:=Value.type "StopIteration",dict:=none,data:=.fields xs } }) hh hxe hx3 rfl hsz (Heap.get?_push_of_some _ he2) hed hctx ?_
 refine wpAny_bind (wpAny_isInstance (T:="StopIteration") (b:=true) ⟨_,Heap.get?_update_self _ hx3 (Obj.isFreed_of_fields (Obj.data_mapFields rfl _)),rfl⟩ isSubtype_stop ?_)
 refine wpAny_pure (hQ _ λb o hb eo=>?_)
 have e2:=eb b o hb eo
 exact(Heap.get?_update_other _ _ (Nat.ne_of_gt (Heap.lt_size e2))).trans (Heap.get?_push_of_some _ e2)
end
end
section
theorem code_fn0 {W:Avoid}{f:Addr}{body:List Stmt}{names:List (Str×NameKind)}{params:List Str}{code:Value}{vs:List Value}
  (at_:AtH g A O M W F s) (hrd:A.depth+2*(n+1)+2 < recursionLimit) (fk:FnK g.K f body names params code) (rs:Rds O M s.heap 0 vs ds) (hl:ds.length=params.length) (hps:params.all (stOk ⟨names,[]⟩)=true) (hρ:bN ⟨names,[]⟩ params ds=some V)
  (hbody:∀(env:Env) (P O':Avoid) (s2:Shared),Act g O' No V env s2->Pl g O' No P env->Chg P s s2->(∀b,P b->s.heap.get? b=none)->(∀b,O b->O' b)->(∀b,W b->lR env b) →
   wpAny g.M (A.deeper env) (execs body env) (λf s'=>R (.ok (.ret (retOf f))) s') (tO g A env R) s2) :
  codeAny g.M A (.call (.ref f) ⟨vs,[]⟩) R s:=by
 obtain⟨⟨c,dd,fd,sl,hK,FD,hcl,hcd,hnm,hco,hb⟩,nm⟩:=fk
 subst hnm
 exact qE (clv:=[]) at_ hrd (at_.up _ _ (g.X _ _ hK)) rfl FD ((bL g.X hcd).keeps at_.up) (by rw [hb vs (by rw [rs.length,hl])]; exact wpAny_pure ⟨vs,rfl,aD s,rs⟩) (by rw [hcl]; exact j0) (λx b h=>by rw [hcl] at h; cases h) nm hps hρ λenv P O' s2 zw a pl ch np oo off zw zw zw=>hbody env P O' s2 a pl ch np oo off
theorem Act.name (a:Act g O M V env s)(h:V.is x d)(hd:(x==("__debug__":Str))=false)(q:∀v,Rd O M s.heap 0 v d->Q v s):wpAny g.M A (eval (.Name x p) env) Q E s:=by
 obtain⟨v,hv,hr,_⟩:=a.eo.vars x d 0 h
 exact wpAny_Name (i4 a.eo.kind hv (q v hr)) hd
noncomputable def Plain (h:Heap) (e:Addr):Prop:=∃oe vs,h.get? e=some oe/\oe.data=.fields vs/\vs[2]?=some .none
structure HJ (g:Glob) (T:Topo) (O':Avoid) (env:Env) (l:LayS) (e:Addr) (s_0:Shared) (σ:SS) (V:Rho) (s':Shared):Prop where
 act:Act g O' No V env s'
 srt:Srt g T s'.heap l σ
 cx:Cx l.W No s_0 s'
 ex:Plain s'.heap e
section
variable {O' P:Avoid} {e:Addr} {s_0 s'':Shared} {σ':SS}
theorem HJ.keeps (J:HJ g T O' env l e s_0 σ V s')(k:Keeps s' s''):HJ g T O' env l e s_0 σ V s'':=by
 refine⟨J.act.keeps k,J.srt.keeps λb o zw=>aA k b o,J.cx.step (.of_keeps (W:=No) (F:=No) k) (λzw h=>h.elim) λzw h=>h.elim,?_⟩
 obtain⟨oe,vs,h1,h2⟩:=J.ex
 exact⟨oe,vs,aA k _ _ h1,h2⟩
theorem HJ.store {Q:Unit->Shared->Prop}(J:HJ g T O' env l e s_0 σ V s')(pl:Pl g O' No P env)(np:∀b,P b->s_0.heap.get? b=none)(hS:∀b,l.W b->∃o,s_0.heap.get? b=some o)(he:∃o,s_0.heap.get? e=some o)(hx:stOk V x=true)(rv:Rd O' No s'.heap 0 v d)
  (q:∀s'',HJ g T O' env l e s_0 σ (V.put x d 0) s''->Q () s''):wpAny g.M A (storeName env x v) Q E s' :=
 cS pl J.act hx rv λs'' ch a zw=>by
  refine q s'' ⟨a,J.srt.keeps λb o hb eb=>ch.2 b o (λz=>?_) eb,J.cx.step (.of_chg (W:=P) (F:=No) ch) (λb hb=>.inr (np b hb)) λzw h=>h.elim,?_⟩
  ·obtain⟨o',e'⟩:=hS b hb
   rw [np b z] at e'; cases e'
  ·obtain⟨oe,vs,h1,h2⟩:=J.ex
   refine⟨oe,vs,ch.2 _ _ (λz=>?_) h1,h2⟩
   obtain⟨o',e'⟩:=he
   rw [np e z] at e'; cases e'
theorem HJ.world (J:HJ g T O' env l e s_0 σ V s')(hWO:∀b,l.W b->O' b)(off:∀b,l.W b->lR env b)(heW:¬l.W e)(hg:∀b,l.W b->∀o,g.h.get? b≠some o)(cx:Cx l.W No s' s'')(S:Srt g T s''.heap l σ'):HJ g T O' env l e s_0 σ' V s'':=by
 refine⟨⟨cx.up J.act.up λb o eo=>⟨λz=>hg b z o eo,id⟩,cx.alloc J.act.aO λb hb=>S.al b hb,λzw h=>h.elim,cx.envOk J.act.eo (λb hb=>⟨hWO b hb,off b hb⟩) λzw h=>h.elim,cx.frameOk J.act.fo off⟩,S,J.cx.step cx (λb hb=>.inl hb) λzw h=>h.elim,?_⟩
 obtain⟨oe,vs,h1,h2⟩:=J.ex
 exact⟨oe,vs,(cx.2 _ _ heW h1).2 id,h2⟩
end
end
theorem ready_h {e:Addr}(at_:AtH g A O M l.W F s)(hrd:A.depth+2*(n+1)+2 < recursionLimit)(TK:TopoOk g.K T)(TF:TopoFn g.K T)(N:Names g)(htup:Callee g "tuple" (.type "tuple"))
  (hh:A.handled=some (.ref e)) (he:Plain s.heap e) (heW:¬l.W e) (S:Srt g T s.heap l σ) (hr:σ.ready=some [])
  (q:∀(s':Shared) v,Cx l.W No s s'->Alloc l.W s'->Rd No No s'.heap 0 v (.tuple [])->R (.ok (.ret v)) s') :
  codeAny g.M A (.call (.ref T.ready) ⟨[.ref l.a],[]⟩) R s:=by
 obtain⟨c,fk⟩:=TF.ready
 refine code_fn0 (ds:=[objD l.a]) at_ hrd fk (.cons .obj .nil) rfl rfl rfl λenv P O' s2 a2 pl ch np oo off=>?_
 ((show let Q0:=_; wpAny _ _ _ Q0 _ _); intro Q0)
 conv in (mOf _ _).1=>whnf
 have heA:∃o,s.heap.get? e=some o:=by obtain⟨oe,vs,h1,_⟩:=he; exact⟨oe,h1⟩
 have hWO:∀b,l.W b->O' b:=λb hb=>oo b (at_.wo b hb)
 have kp:∀b o,s.heap.get? b=some o->s2.heap.get? b=some o:=λb o eb=>ch.2 b o (λz=>by rw [np b z] at eb; cases eb) eb
 have J2:HJ g T O' env l e s σ ((⟨(mOf "TopologicalSorter" "get_ready").2.1,[]⟩:Rho).put "self" (objD l.a) 0) s2:=⟨a2,S.keeps λb o zw=>kp b o,(Cx.of_chg ch).less (λb hb=>.inr (np b hb)) λzw h=>.inl h,by obtain⟨oe,vs,h1,h2⟩:=he; exact⟨oe,vs,kp _ _ h1,h2⟩⟩
 have hse:((⟨(mOf "TopologicalSorter" "get_ready").2.1,[]⟩:Rho).put "self" (objD l.a) 0).is "self" (objD l.a):=rfl
 have hsc:((⟨(mOf "TopologicalSorter" "get_ready").2.1,[]⟩:Rho).put "self" (objD l.a) 0).sc=(mOf "TopologicalSorter" "get_ready").2.1:=rfl
 generalize (⟨(mOf "TopologicalSorter" "get_ready").2.1,[]⟩:Rho).put "self" (objD l.a) 0=V at J2 hse hsc
 revert hsc
 revert hse
 revert J2
 revert V
 refine id ?_
 intro V J2 hse hsc
 clear a2
 have hin:interactive env=false:=by unfold interactive; rw [J2.act.eo.kind]; rfl
 obtain⟨rr,hrr,hx⟩:=RdyAt.one (hr ▸ J2.srt.rdy)
 have X:∀{s':Shared},g.Up s'->g.K.In s'.heap:=λu=>g.X.keeps u
 have hS:∀b,l.W b->∃o,s.heap.get? b=some o:=λb hb=>S.al b hb
 refine wpAny_execs_cons (wpAny_If (wpAny_isTrue_Compare1 (Attribute_Name_ (J2.act.name hse (by decide) λv rv=>?_)) rfl))
 have:=aU rv; subst this
 refine kW J2.srt (X J2.act.up) TK ?_
 rw [hrr]
 have J3:=J2.keeps (aG s2 (s2.toks+1))
 refine wpAny_pure (a:=Value.none) (is_none_gen (wpAny_truthy_bool ((if_neg (show ¬((Value.ref rr==Value.none)=true) from Bool.false_ne_true)).mpr (wpAny_execs_nil ?_))))
 cases htup with
 | ty h1 h2 h3 =>
 refine wpAny_execs_cons (wpAny_Assign_Name (Call_ (aT J3.act.up J3.act.eo (by rw [hsc]; rfl) h1 h2 h3 (by decide) (PySem.callWith_type (aL rfl) (aK rfl (wpAny_items_cons (Attribute_Name_ (J3.act.name hse (by decide) λv rv=>?_)) rfl))))) (aJ rfl _ _ _))
 have:=aU rv; subst this
 refine kW J3.srt (X J3.act.up) TK (wpAny_items_nil ?_)
 ((show let Q0:=_; let s0:Shared:=_; wpAny _ _ _ Q0 _ s0); intro Q0 s0)
 rw [hrr]
 have J4:=J3.keeps (aG _ (s2.toks+1+1))
 have hx4:Ints s2.heap rr []:=hx
 obtain⟨us,m,u1,u2,u3⟩:=hx4
 have hus:us=#[]:=by
  have:=u3.length
  rw [List.length_map,Array.length_toList] at this
  exact Array.eq_empty_of_size_eq_zero this
 subst hus
 refine call_tuple_list (IsL.isList u1) (λh' hk=>?_) (by decide)
 have k5:Keeps s2 { s2 with heap:=h',toks:=s2.toks+1+1 }:=⟨h',_,rfl,hk⟩
 have k6:Keeps s2 { s2 with heap:=h'.push { cls:=.type "tuple",data:=.seq #[] },toks:=s2.toks+1+1 }:=aB k5 (aI { s2 with heap:=h',toks:=s2.toks+1+1 } _ _)
 have J6:=J2.keeps k6
 have rt:Rd O' No (h'.push { cls:=.type "tuple",data:=.seq #[] }) 0 (.ref h'.objs.size) (.tuple []):=eG (s:={ s2 with heap:=h',toks:=s2.toks+1+1 }) (J2.act.aO.keeps k5) (λzw h=>h.elim) (Nat.zero_le _) .nil
 refine J6.store pl np hS heA (by unfold stOk; rw [hsc]; rfl) rt λs7 J7=>?_
 ((show let Q0:=_; let E0:=_; wpAny _ _ _ Q0 E0 _); intro Q0 E0)
 have hse7:=Rho.is_ne (x:="result") (d':=.tuple []) (k:=0) hse rfl
 have hre7:=Rho.is_put (V:=V) (x:="result") (d:=.tuple [])
 have hsc7:(V.put "result" (.tuple []) 0).sc=(mOf "TopologicalSorter" "get_ready").2.1:=hsc
 generalize V.put "result" (.tuple []) 0=V7 at J7 hse7 hre7 hsc7
 revert hsc7
 revert hre7
 revert hse7
 revert J7
 revert V7
 refine id ?_
 intro V7 J7 hse7 hre7 hsc7
 clear rt J6 J4 J3 k6 k5 u3 u2 u1 hk hx J2 rv
 refine wpAny_execs_cons (wpAny_Assign_Name (Attribute_Name_ (J7.act.name hse7 (by decide) λv rv=>?_)) (aJ rfl _ _ _))
 have:=aU rv; subst this
 refine nU J7.srt (X J7.act.up) TK ?_
 ((show let Q0:=_; wpAny _ _ _ Q0 _ _); intro Q0)
 have J8:=J7.keeps (aG s7 (s7.toks+1))
 refine J8.store pl np hS heA (d:=objD l.m) (by unfold stOk; rw [hsc7]; rfl) .obj λs9 J9=>?_
 ((show let Q0:=_; let E0:=_; wpAny _ _ _ Q0 E0 _); intro Q0 E0)
 have hse9:=Rho.is_ne (x:="n2i") (d':=objD l.m) (k:=0) hse7 rfl
 have hre9:=Rho.is_ne (x:="n2i") (d':=objD l.m) (k:=0) hre7 rfl
 have hsc9:(V7.put "n2i" (objD l.m) 0).sc=(mOf "TopologicalSorter" "get_ready").2.1:=hsc7
 generalize V7.put "n2i" (objD l.m) 0=V9 at J9 hse9 hre9 hsc9
 revert hsc9
 revert hre9
 revert hse9
 revert J9
 revert V9
 refine id ?_
 intro V9 J9 hse9 hre9 hsc9
 clear J8 J7 rv
 refine wpAny_execs_cons (wpAny_For (J9.act.name hre9 (by decide) λv rv=>?_) (λx=>rfl))
 obtain⟨t,vs,m',rfl,t1,t2,t3,t4,_⟩:=kG rv
 have hvs:vs=#[]:=by
  have:=t3.length
  rw [Array.length_toList] at this
  exact Array.eq_empty_of_size_eq_zero this
 subst hvs
 refine wpAny_pyIter_tuple (IsT.isTuple t2) ?_
 have k10:Keeps s9 { s9 with heap:=s9.heap.push { cls:=.type "tuple_iterator",data:=.fields #[.ref t,.int 0 0] } }:=aI s9 _ _
 have J10:=J9.keeps k10
 have hit:(s9.heap.push { cls:=.type "tuple_iterator",data:=.fields #[.ref t,.int 0 0] }).IsTupleIter s9.heap.objs.size t 0:=⟨_,Heap.get?_push_size _ rfl,rfl,rfl⟩
 have t2':=aA k10 _ _ t2
 have hei:e≠s9.heap.objs.size:=by
  obtain⟨oe,vs,e1,_⟩:=J9.ex
  exact Nat.ne_of_lt (Heap.lt_size e1)
 obtain⟨oe,evs,e1,e2,e3⟩:=id J10.ex
 refine codeAny_forLoop_any (prog:=g.prog) (w:=g.w) (λzw s'=>s'={ s9 with heap:=s9.heap.push { cls:=.type "tuple_iterator",data:=.fields #[.ref t,.int 0 0] } }) (λk s' hs'=>?_) 0 rfl
 subst hs'
 refine pK hh e1 e2 e3 hei hit (IsT.isTuple t2') rfl λh11 hx11=>wpAny_execs_nil ?_
 ((show let Q0:=_; let E0:=_; wpAny _ _ _ Q0 E0 _); intro Q0 E0)
 have k11:Keeps s9 { s9 with heap:=h11 }:=⟨h11,s9.toks,rfl,λb o eo=>hx11 b o (Nat.ne_of_lt (Heap.lt_size eo)) (aA k10 _ _ eo)⟩
 have J11:=J9.keeps k11
 have t11:IsT h11 t #[] m':=aA k11 _ _ t2
 clear J10 t2' hit
 have hgW:∀b,l.W b->∀o,g.h.get? b≠some o:=at_.wg
 refine wpAny_execs_cons (wpAny_Expr_any (prog:=g.prog) (w:=g.w) (MethodCall_ (Attribute_Name_ (J11.act.name hse9 (by decide) λv rv=>?_))) hin (aJ rfl _ _ _))
 have:=aU rv; subst this
 refine kW J11.srt (X J11.act.up) TK ?_
 rw [hrr]
 have J12:=J11.keeps (aG _ (s9.toks+1))
 have k12:=aB k11 (aG { s9 with heap:=h11 } (s9.toks+1))
 have hx12:Ints h11 rr []:=by
  obtain⟨r',hr',hx'⟩:=RdyAt.one (hr ▸ J12.srt.rdy)
  rw [hrr] at hr'; cases hr'; exact hx'
 refine rD (g:=g) hx12 (callWith_builtin (aL rfl) (aK rfl (wpAny_items_nil (vD (g:=g) hx12 λh13 hs13 hx13=>?_))))
 ((show let Q0:=_; let E0:=_; wpAny _ _ _ Q0 E0 _); intro Q0 E0)
 have S13:=J12.srt.readyL hrr hs13 hx13
 have J13:=J12.world hWO off heW hgW ((aY (W:=l.W) (s:={ s9 with heap:=h11,toks:=s9.toks+1 }) (tk:=s9.toks+1) hs13 (show rr∈l.all by simp [LayS.all,hrr]) rfl)) S13
 generalize ({ s9 with heap:=h13,toks:=s9.toks+1 }:Shared)=s13 at J13 ⊢
 revert J13
 revert s13
 refine id ?_
 intro s13 J13
 clear J12 J11 k12 k11 rv
 refine wpAny_execs_cons (wpAny_AugAssign_AttributeAny (J13.act.name hse9 (by decide) λv rv=>?_))
 ((show let Q0:=_; wpAny _ _ _ Q0 _ _); intro Q0)
 have:=aU rv; subst this
 refine get_out J13.srt (X J13.act.up) TK λtk=>?_
 ((show let Q0:=_; let E0:=_; wpAny _ _ _ Q0 E0 _); intro Q0 E0)
 have J14:=J13.keeps (aG s13 (s13.toks+1))
 generalize hs14:({ s13 with toks:=s13.toks+1 }:Shared)=s14 at J14 ⊢
 revert J14
 revert hs14
 revert s14
 refine id ?_
 intro s14 hs14 J14
 ((show let Q0:=_; let E0:=_; wpAny _ _ _ Q0 E0 _); intro Q0 E0)
 have hlen:=N.len
 cases hlen with
 | bt g1 g2 g3 =>
 refine Call_ (aT J14.act.up J14.act.eo (by rw [hsc9]; rfl) g1 g2 g3 (by decide) (Calls.callWith_builtin (aL rfl) (aK rfl (wpAny_items_cons (J14.act.name hre9 (by decide) λv rv=>wpAny_items_nil ?_) rfl))))
 obtain⟨t',vs',m'',rfl,q1,q2,q3,_,_⟩:=kG rv
 have hvs:vs'=#[]:=by
  have:=q3.length
  rw [Array.length_toList] at this
  exact Array.eq_empty_of_size_eq_zero this
 subst hvs
 refine PyProof.Rows.len_tuple (items:=#[]) ⟨_,q2,rfl,m'',rfl⟩ (by decide) ?_
 ((show let Q0:=_; let E0:=_; wpAny _ _ _ Q0 E0 _); intro Q0 E0)
 have J15:=J14.keeps (aG s14 (s14.toks+1+1))
 refine PySem.P.iadd_int ?_
 have J16:=J15.keeps (aG _ (s14.toks+1+1+1))
 refine set_out J16.srt (X J16.act.up) TK λs17 cx17 S17=>?_
 have J17:=J16.world hWO off heW hgW cx17 S17
 refine wpAny_execs_cons (wpAny_Return_some (J17.act.name hre9 (by decide) λv rv=>?_))
 exact q s17 v J17.cx (λb hb=>S17.al b hb) (rv.imp (λzw zw zw z=>z) (λzw zw zw h=>h) (Nat.le_refl 0))
set_option backward.match.sparseCases false
theorem excK1 (P:Params):ExcK (K1 P) 55:=⟨⟨_,_,54,_,_,_,_,_,_,_,rfl,by kernel_rfl,by kernel_rfl⟩⟩
theorem Run.effU {W VV VV':Avoid}(r:Run c O M W V s)(sub:∀b,VV b->W b)(e:Eff VV c.Fc s VV' s'):Run c (λb=>O b\/(W b\/VV' b)) M (λb=>W b\/VV' b) V s'/\(∀b o,W b->¬VV b->s.heap.get? b=some o->s'.heap.get? b=some o):=by
 have kp:∀b o,W b->¬VV b->s.heap.get? b=some o->s'.heap.get? b=some o:=λb o hw hv eo=>(e.cx.2 b o hv eo).2 (r.at.wf b hw)
 refine⟨r.eff (W':=λb=>W b\/VV' b) (e.cx.mono sub λzw h=>h) (λzw h=>.inl h) (λb hb=>?_) λb hb=>?_,kp⟩
 ·rcases hb with hb | hb
  ·exact .inl hb
  ·exact(e.new b hb).imp (sub b) id
 ·by_cases hv:VV' b
  ·exact e.al b hv
  ·rcases hb with hb | hb
   ·obtain⟨o,eo⟩:=r.act.aO b (r.wo b hb)
    exact⟨o,kp b o hb (λh=>hv (e.up b h)) eo⟩
   ·exact absurd hb hv
noncomputable def rfB:List Stmt:=(fnOf "_law_refused").1
noncomputable def rfN:List (Str×NameKind):=(fnOf "_law_refused").2.1
theorem rf1 (P:Params):∃c,FnK (K1 P) 195 rfB rfN ["sorter"] c :=
 ⟨_,⟨_,_,_,_,rfl,⟨rfl,rfl,rfl,rfl,rfl,rfl⟩,rfl,by kernel_rfl,rfl,rfl,fB λzw=>rfl⟩,rfl⟩
theorem pA {rr:List Int}(G:Gr1 g P)(at_:At g (n+6) A O M l.W F s)(S:Srt g T1 s.heap l σ)(hrd:l.rd=[])(hsuc:∀nd∈σ.nodes,∀x∈nd.succ,σ.has x=true)(hres:σ.cyc=some (some rr))(hne:rr≠[])(hroots:σ.roots=[])
  (q:∀s' W',Eff l.W F s W' s'->R (.ok (.ret (.bool true))) s'):codeAny g.M A (.call (.ref 195) ⟨[.ref l.a],[]⟩) R s:=by
 have K:=G.k
 obtain⟨cc,fk⟩:=rf1 P
 rw [<- K] at fk
 have TK:=G.topo
 have TF:=G.fns
 have N:=G.names
 have XK:ExcK g.K 55:=by rw [K]; exact excK1 P
 have hC:nsIn g.K mainGlobals "CycleError"=some (some (.ref 55)):=by rw [K]; rfl
 refine eY (n:=n+5) (ds:=[objD l.a]) at_ fk (.cons .obj .nil) rfl rfl rfl λenv Pp O' s2 r hc hk=>?_
 revert r
 (show let c:Fx:=_; Run c _ _ _ _ _->_)
 intro c r
 ((show let Q0:=_; wpAny _ _ _ Q0 _ _); intro Q0)
 have hso:((⟨rfN,[]⟩:Rho).put "sorter" (objD l.a) 0).is "sorter" (objD l.a):=rfl
 have hsc:((⟨rfN,[]⟩:Rho).put "sorter" (objD l.a) 0).sc=rfN:=rfl
 generalize (⟨rfN,[]⟩:Rho).put "sorter" (objD l.a) 0=V at r hso hsc
 revert hsc
 revert hso
 revert r
 revert V
 refine id ?_
 intro V r hso hsc
 ((show let Q0:=_; let E0:=_; wpAny _ _ _ Q0 E0 _); intro Q0 E0)
 have hB:rfB=[rfB.getD 0 noSt,rfB.getD 1 noSt]:=rfl
 rw [hB]
 have S2:Srt g T1 s2.heap l σ:=S.keeps λb o zw=>hk b o
 have hu:A.units+3+30*(n+5)+60 < cLine:=r.rm.units
 have hd:A.depth+1+2*(n+5)+2 < recursionLimit:=r.rm.depth
 conv in rfB.getD 0 noSt=>whnf
 refine wpAny_execs_cons (wpAny_Try_except (wpAny_execs_cons (wpAny_Expr_any (prog:=c.g.prog) (w:=c.g.w) (MethodCall_ (r.name hso (by decide) λv rv=>?_)) r.inter (aJ rfl _ _ _))))
 have:=aU rv; subst this
 refine gU S2 r.now TK TK.mprep (by decide) (callWith_K0 r.now TK.mprep.keep ?_)
 ((show let Q0:=_; let E0:=_; wpAny _ _ _ Q0 E0 _); intro Q0 E0)
 refine wpAny_call (xL (n:=n+1) (r.at.le (by show n+1+4<=n+5; (simp +arith))) TK TF N G.set G.iter G.stop S2 hrd hsuc hres (λr' e=>by cases e; exact hne) XK hC (λs5 z hr ef5 S5=>by cases hr) λs5 z e Te hr ef5 S5 fl he hTe e0 T0=>?_)
 ((show let Q0:=_; wpAny _ _ _ Q0 _ _); intro Q0)
 obtain⟨r5,kp⟩:=r.effU (λzw h=>h) ef5
 refine r5.caughtC (x:="CycleError") (.inr (.inr (.inl rfl))) (.inr (.inr (.inr rfl))) fl XK (by rw [hsc]; rfl) hC (by decide) λs6 E' cx6 r6 ex6=>?_
 ((show let Q0:=_; wpAny _ _ _ Q0 _ _); intro Q0)
 generalize hl':({ l with rd:=[z] }:LayS)=l' at S5 he hTe r5 r6 cx6
 revert cx6
 revert r6
 revert r5
 revert hTe
 revert he
 revert S5
 revert hl'
 revert l'
 refine id ?_
 intro l' hl' S5 he hTe r5 r6 cx6
 have ela:l.a=l'.a:=by rw [<- hl']
 have S6:Srt g T1 s6.heap l' { σ with ready:=some σ.roots }:=S5.keeps λb o hb eb=>(cx6.2 b o (λh=>h.elim (λh=>he (h ▸ hb)) λh=>hTe (h ▸ hb)) eb).2 (r5.at.wf b (.inr (.inl hb)))
 have at6:=r6.at
 have atm:AtH g ((A.deeper env).mark (some (.ref e))) _ No l'.W c.Fc s6:={ at6.toAtH with frm:=⟨at6.frm.fs,at6.frm.gl⟩,wo:=λb h=>at6.wo b (.inr (.inl h)),wf:=λb h=>at6.wf b (.inr (.inl h)),wg:=λb h=>at6.wg b (.inr (.inl h)) }
 refine wpAny_execs_cons (wpAny_Return_some (wpAny_Compare1 (MethodCall_ (r6.act.name hso (by decide) λv rv=>?_)) rfl))
 have:=aU rv; subst this
 rw [ela]
 refine gU S6 r6.now TK TK.mready (by decide) (callWith_K0 r6.now TK.mready.keep ?_)
 refine wpAny_call (ready_h (n:=n) atm (by show A.depth+1+2*(n+1)+2 < recursionLimit; grind) TK TF N G.tuple rfl ex6 he S6 (by show some σ.roots=some []; rw [hroots]) λs7 v cx7 al7 rv7=>?_)
 ((show let Q0:=_; wpAny _ _ _ Q0 _ _); intro Q0)
 obtain⟨r7,_⟩:=r6.effU (VV:=l'.W) (VV':=l'.W) (λb h=>.inr (.inl h)) ⟨cx7.mono (λzw h=>h) No.le,λzw h=>h,λzw h=>.inl h,al7⟩
 refine wpAny_Tuple (wpAny_items_nil ⟨Nat.zero_le _,?_⟩)
 ((show let Q0:=_; wpAny _ _ _ Q0 _ _); intro Q0)
 have k8:Keeps s7 { s7 with heap:=s7.heap.push { cls:=.type "tuple",data:=.seq ([]:List Value).toArray } }:=aI s7 _ _
 have r8:=r7.keeps k8
 have rt:Rd No No (s7.heap.push { cls:=.type "tuple",data:=.seq ([]:List Value).toArray }) 0 (.ref s7.heap.objs.size) (.tuple []):=eG (s:=s7) (λzw h=>h.elim) (λzw h=>h.elim) (Nat.zero_le _) .nil
 obtain⟨as,ra⟩:=(rv7.keeps (aA k8)).reads (a8 (d:=.tuple []) rfl)
 obtain⟨bs,rb⟩:=rt.reads (a8 (d:=.tuple []) rfl)
 refine eq_dataH ra rb rfl rfl (by show A.units+3+64 < cLine; grind) ?_
 exact q _ _ (r8.eff_out λb h=>.inl (.inl h))
noncomputable def onDc {α:Type} (f:List (D×D)->Option α) (d:D):Option α:=if h:d.ctorIdx=6 then PyData.dict.elim (motive_1:=λzw=>Option α) d h f else none
theorem onDc_el {α:Type}{f:List (D×D)->Option α}{r:α}{P:D->Prop}(h:onDc f d=some r)(k:∀x,f x=some r->P (.dict x)):P d :=
 if hh:d.ctorIdx=6 then PyData.dict.elim (motive_1:=λd=>onDc f d=some r->P d) d hh k h else no ((dif_neg hh).symm.trans h)
noncomputable def natI (z:Int):Option Addr:=Int.casesOn (motive:=λzw=>Option Addr) z some λzw=>none
theorem x8 {z:Int}(h:natI z=some a):z=(a:Int):=by
 cases z with
 | ofNat b=>cases h; rfl
 | negSucc b=>cases h
noncomputable def objA (d:D):Option Addr:=onDc (l1 λp=>(nH p.2).bind λzw=>onI natI p.1) d
theorem xW (h:objA d=some a):d=objD a :=
 onDc_el (P:=λd=>d=objD a) h λkvs h=>l1E (P:=λkvs=>PyData.dict kvs=objD a) h λp h=>bd h λzw e h=>by
  obtain⟨x,y⟩:=p
  exact jX (P:=λy=>PyData.dict [(x,y)]=objD a) e (cH (P:=λx=>PyData.dict [(x,.none)]=objD a) h λz h=>by rw [x8 h]; rfl)
noncomputable def tupIx (tb:List (Addr×Tri)) (a:Addr) (k:Int):Option DK:=(tb.lookup a).bind λt=>if k=0 then some (.int t.1,0) else if k=1 then some (.int (t.2.1:Int),0) else if k=2 then some (.int (t.2.2:Int),0) else none
noncomputable def sV:Expr->Bool
 | .Name x _=>x==("step":Str) || x==("nearest":Str)
 | .Subscript (.Name x _) _ _=>x==("out":Str) || x==("nearest":Str)
 | _=>false
noncomputable def y8 (E:Ev) (tb:List (Addr×Tri)) (m:Addr) (kb:List (Int×Addr)) (V:Rho) (o i:Expr):Option DK :=
 if sV o=true/\SubS.notSlice i=true then (E.e V o).bind λr=>(objA r.1).bind λa=>dkI (E.e V i) λk zw=>if a=m then (kb.lookup k).bind λb=>some (objD b,0) else tupIx tb a k else none
noncomputable def hookO (E:Ev) (tb:List (Addr×Tri)) (m:Addr) (kb:List (Int×Addr)) (V:Rho):Expr->Option DK
 | .Subscript o i _=>y8 E tb m kb V o i
 | _=>none
structure Known (g:Glob) (h:Heap) (tb:List (Addr×Tri)) (m:Addr) (kb:List (Int×Addr)):Prop where
 tup:∀p∈tb,TupAt h (.ref p.1) p.2
 dict:kb=[]\/h.DictOf (intKind g.prog g.w) m (kb.map λp=>(p.1,Value.ref p.2))
theorem lookA {tb:List (Addr×Tri)}{t:Tri}(h:tb.lookup a=some t):(a,t)∈tb:=by
 induction tb with
 | nil=>cases h
 | cons p tb ih =>
  obtain⟨b,u⟩:=p
  rw [List.lookup_cons] at h
  split at h
  ·rename_i e
   have e:a=b:=eq_of_beq e
   cases h; rw [e]; exact List.mem_cons_self ..
  ·exact List.mem_cons_of_mem _ (ih h)
theorem val_kb {kb:List (Int×Addr)}{k:Int}{b:Addr}(h:kb.lookup k=some b):valueAt (kb.map λp=>(p.1,Value.ref p.2)) k=some (.ref b):=by
 induction kb with
 | nil=>cases h
 | cons p kb ih =>
  obtain⟨k',b'⟩:=p
  rw [List.lookup_cons] at h
  unfold valueAt
  rw [List.map_cons,List.find?_cons]
  cases e:k==k' with
  | true =>
   rw [e] at h
   cases h
   have e:k=k':=eq_of_beq e
   subst e
   simp
  | false =>
   rw [e] at h
   have hne:¬k'=k:=λz=>by rw [z,beq_self_eq_true] at e; cases e
   rw [show decide ((k',Value.ref b').1=k)=false from decide_eq_false hne]
   exact ih h
noncomputable def ixOk (z:Int) (j:Nat):Prop:=-2 ^ 63<=z/\z < 2 ^ 63/\seqIndex? z 3=some j
theorem hookB_ok {E:Ev}{tb:List (Addr×Tri)}{m:Addr}{kb:List (Int×Addr)}{o i:Expr}(okE:E.Ok g n)(F:Known g g.h tb m kb)(h:y8 E tb m kb V o i=some (d,k)):EvS g n V (.Subscript o i p) d k:=by
 obtain⟨⟨_,hi⟩,h⟩:=gd h
 refine bd h λr hr h1=>bd h1 λa ha h2=>iE h2 λz kz hz h3=>?_
 obtain⟨d0,k0⟩:=r
 have e0:d0=objD a:=xW ha
 subst e0
 have evo:EvS g n V o (objD a) k0:=okE.e _ _ _ _ hr
 have evi:EvS g n V i (.int z) kz:=okE.e _ _ _ _ hz
 intro O M env A s E' u rm aO aM eo
 refine Subscript_ (evo.use u rm aO aM eo λva s_1 k1 r1 u1 o1 m1 e1=>evi.use u1 rm o1 m1 e1 λvb s2 k2 r2 u2 o2 m2 e_2=>?_)
 have:=aU r1; subst this
 obtain⟨t,rfl⟩:=aH r2
 refine fi h3 (λe h4=>?_) λzw h4=>?_
 ·subst e
  refine bd h4 λb hb h5=>?_
  cases h5
  rcases F.dict with hk | I
  ·rw [hk] at hb; cases hb
  ·have hm:s2.heap.DictOf (intKind g.prog g.w) a (kb.map λp=>(p.1,Value.ref p.2)):=I.keep u2
   exact tail_any (T:="dict") hm.typeIs slot_dict_getitem.lookup (wpAny_getItem_of (intKind_is g.prog g.w z t) hm.mapOf (val_kb hb) ⟨aB k1 (aB k2 (aG _ _)),.obj⟩) (aS hi _ _)
 ·refine bd h4 λtr htr h5=>?_
  obtain⟨a',n',t1,t2,t3,e,hT⟩:=F.tup _ (lookA htr)
  have e:a=a':=by cases e; rfl
  subst e
  have hT2:IsT s2.heap a #[Value.int tr.1 t1,Value.int (tr.2.1:Int) t2,Value.int (tr.2.2:Int) t3] n':=u2 _ _ hT
  obtain⟨j,y,ty,hz3,hg,e2⟩:∃(j:Nat) (y:Int) (ty:Tok),ixOk z j/\(#[Value.int tr.1 t1,Value.int (tr.2.1:Int) t2,Value.int (tr.2.2:Int) t3]:Array Value)[j]?=some (.int y ty)/\(PyData.int y,0)=(d,k) :=
   fi h5 (λe h6=>⟨0,_,t1,e ▸ ⟨by decide,by decide,rfl⟩,rfl,Option.some.inj h6⟩) λzw h6=>fi h6 (λe h7=>⟨1,_,t2,e ▸ ⟨by decide,by decide,rfl⟩,rfl,Option.some.inj h7⟩) λzw h7=>fi h7 (λe h8=>⟨2,_,t3,e ▸ ⟨by decide,by decide,rfl⟩,rfl,Option.some.inj h8⟩) λzw h8=>no h8
  cases e2
  exact tail_any (T:="tuple") ⟨_,hT2,rfl⟩ PySem.F.slot_tuple_getitem.lookup (PySem.P.getItem_tuple hT2 hz3.1 hz3.2.1 (k:=j) hz3.2.2 hg ⟨aB k1 k2,.int⟩) (aS hi _ _)
theorem sT {E:Ev}{tb:List (Addr×Tri)}{m:Addr}{kb:List (Int×Addr)}(okE:E.Ok g n)(F:Known g g.h tb m kb)(h:hookO E tb m kb V e=some (d,k)):EvS g n V e d k:=by
 cases e with
 | Subscript o i p=>exact hookB_ok okE F h
 | _=>exact no h
noncomputable def TK1 (tb:List (Addr×Tri)) (m:Addr) (kb:List (Int×Addr)):Tab:=⟨λzw zw=>none,hookO (Ev.at T0 4) tb m kb⟩
noncomputable def TK2 (cl:List Ent) (tb:List (Addr×Tri)) (m:Addr) (kb:List (Int×Addr)):Tab:=⟨(tabOf cl).call,hookO (Ev.at (TK1 tb m kb) 5) tb m kb⟩
theorem TK1_ok {tb:List (Addr×Tri)}{m:Addr}{kb:List (Int×Addr)}(hn:1<=n)(N:Names g)(F:Known g g.h tb m kb)(j:Nat):(Ev.at (TK1 tb m kb) j).Ok g n :=
 dH hn N ⟨λzw zw zw h=>(by cases h),λV e d k h=>sT (E:=Ev.at T0 4) (dH hn N fR 4) F h⟩ j
theorem TK2_ok {cl:List Ent}{tb:List (Addr×Tri)}{m:Addr}{kb:List (Int×Addr)}(hn:1<=n)(N:Names g)(hc:∀e∈cl,EntOk g n e)(F:Known g g.h tb m kb)(j:Nat):(Ev.at (TK2 cl tb m kb) j).Ok g n :=
 have T:TabOk (TK2 cl tb m kb) g n:={ call:=λf ds d h=>(m6 hc).call f ds d h,hook:=λV e d k h=>sT (E:=Ev.at (TK1 tb m kb) 5) (TK1_ok hn N F 5) F h }
 dH hn N T j
section
open Classical in
noncomputable def offL (P:Avoid) (h:Heap):List Addr:=(List.range h.objs.size).filter λb=>decide (P b)
open Classical in
theorem offL_mem {P:Avoid}{b:Addr}:b∈offL P h↔b < h.objs.size/\P b:=by
 unfold offL
 rw [List.mem_filter,List.mem_range,decide_eq_true_eq]
noncomputable def Glob.hid (g:Glob) (s:Shared) (P:Avoid) (u:∀b o,g.h.get? b=some o->(hideAll s.heap (offL P s.heap)).get? b=some o):Glob:={ g with h:=hideAll s.heap (offL P s.heap),X:=g.X.keeps u,g:=g.g.keeps u,b:=g.b.keeps u,lim:=g.lim.keeps u }
theorem Run.hidU {W:Avoid}(r:Run c O M W V s):∀b o,c.g.h.get? b=some o->(hideAll s.heap (offL c.P s.heap)).get? b=some o:=λb o e =>
 hideAll_get _ (r.act.up b o e) λhb=>(r.pl.pg b o e).1 (offL_mem.mp hb).2
noncomputable abbrev Run.gx {c:Fx} {O M W:Avoid} {V:Rho} {s:Shared} (r:Run c O M W V s):Glob:=c.g.hid s c.P r.hidU
theorem Run.gxIn {W:Avoid}(r:Run c O M W V s){b:Addr}{o:Obj}(e:s.heap.get? b=some o)(hP:¬c.P b):r.gx.h.get? b=some o:=hideAll_get _ e λhb=>hP (offL_mem.mp hb).2
theorem Run.stmX {W:Avoid}{st:Stmt}{f:Fl}{Q:Flow->Shared->Prop}(r:Run c O No W V s)(x:StS r.gx c.n V st f V')
  (q:∀fl s',FlOk O No s'.heap f fl->Chg (PM c.P No) s s'->Run c O No W V' s'->Q fl s'):wpAny c.g.M c.Ar (exec st c.env) Q E s:=by
 have up:r.gx.Up s:=λb o e=>of_hideAll _ e
 have pl:Pl r.gx O No c.P c.env:=⟨r.pl.store,r.pl.po,λb o e=>⟨λz=>(by
  have e':s.heap.get? b=some o:=of_hideAll _ e
  have:=hideAll_none (h:=s.heap) _ (offL_mem.mpr ⟨Heap.lt_size e',z⟩)
  have e:(hideAll s.heap (offL c.P s.heap)).get? b=some o:=e
  rw [this] at e; cases e),id⟩,r.pl.live⟩
 exact x O No c.P c.env c.Ar s E Q pl r.rm ⟨up,r.act.aO,r.act.aM,r.act.eo,r.act.fo⟩ λfl s' h1 h2 h3=>q fl s' h1 h2 (r.chg h2 ⟨λb o e=>h3.up b o (r.hidU b o e),h3.aO,h3.aM,h3.eo,h3.fo⟩)
theorem Run.reread {W:Avoid}(r:Run c O M W V s)(hx:V.is x d):∃v,Rd O M s.heap 0 v d/\∀d',Rd O M s.heap 0 v d'->Run c O M W (V.put x d' 0) s:=by
 obtain⟨v,h1,h2,_⟩:=r.act.eo.vars x d 0 hx
 refine⟨v,h2,λd' rd=>{ r with act:={ r.act with eo:=⟨r.act.eo.kind,r.act.eo.gl,r.act.eo.bl,r.act.eo.sc,r.act.eo.apart,λy e k hy=>?_⟩ } }⟩
 have hy:(putL x (d',0) V.vars).lookup y=some (e,k):=hy
 rw [bT] at hy
 by_cases h:(y==x)=true
 ·rw [h] at hy
  simp only [if_true,Option.some.injEq,Prod.mk.injEq] at hy
  obtain⟨rfl,rfl⟩:=hy
  have:y=x:=by simpa using h
  subst this
  exact⟨v,h1,rd,λz=>absurd rfl z⟩
 ·rw [if_neg h] at hy
  exact r.act.eo.vars y e k hy
theorem Run.less {W:Avoid}(r:Run c O M W V s)(hs:V'.sc=V.sc)(h:∀y e k,V'.vars.lookup y=some (e,k)->V.vars.lookup y=some (e,k)):Run c O M W V' s :=
 { r with act:={ r.act with eo:=⟨r.act.eo.kind,r.act.eo.gl,r.act.eo.bl,r.act.eo.sc.trans hs.symm,r.act.eo.apart,λy e k hy=>r.act.eo.vars y e k (h y e k hy)⟩ } }
theorem qI {ts:List Tri}(r:Rd O M h 0 v (.list (ts.map tupD))):∃tb:List (Addr×Tri),tb.map (·.2)=ts/\(∀p∈tb,TupAt h (.ref p.1) p.2/\¬O p.1)/\Rd O M h 0 v (.list (tb.map λp=>objD p.1)):=by
 obtain⟨a,vs,n,rfl,h1,h2,h3,h4,h5⟩:=bC r
 have go:∀(ts:List Tri) (vs:List Value),Rds O M h 0 vs (ts.map tupD)->∃tb:List (Addr×Tri),tb.map (·.2)=ts/\(∀p∈tb,TupAt h (.ref p.1) p.2/\¬O p.1)/\Rds O M h 0 vs (tb.map λp=>objD p.1):=λts=>by
  induction ts with
  | nil=>exact λvs rs=>⟨[],rfl,λzw h=>(by cases h),rs⟩
  | cons t ts ih =>
   intro vs rs
   obtain⟨w,ws,rfl,r1,r2⟩:=Rds.cons_inv rs
   obtain⟨tb,e1,e2,e3⟩:=ih ws r2
   have ta:=tup_of r1
   obtain⟨b,us,m,e,_,_,_,hO,_⟩:=kG r1
   subst e
   refine⟨(b,t)::tb,by rw [List.map_cons,e1],λp hp=>?_,.cons .obj e3⟩
   rcases List.mem_cons.mp hp with rfl | hp
   ·exact⟨ta,hO⟩
   ·exact e2 p hp
 obtain⟨tb,e1,e2,e3⟩:=go ts vs.toList h3
 exact⟨tb,e1,e2,.list h4 h5 h1 h2 e3⟩
end
section
noncomputable def mlB:List Stmt:=(fnOf "_law_melted").1
noncomputable def mlN:List (Str×NameKind):=(fnOf "_law_melted").2.1
theorem ml1 (P:Params):∃c,FnK (K1 P) 205 mlB mlN ["table"] c :=
 ⟨_,⟨_,_,_,_,rfl,⟨rfl,rfl,rfl,rfl,rfl,rfl⟩,rfl,by kernel_rfl,rfl,rfl,fB λzw=>rfl⟩,rfl⟩
noncomputable def trB:List Stmt:=fJ (mlB.getD 2 noSt)
noncomputable def lbB:List Stmt:=fJ (trB.getD 1 noSt)
noncomputable def inB:List Stmt:=fJ (lbB.getD 1 noSt)
noncomputable abbrev lY (tb:List (Addr×Tri)):D:=.list (tb.map λp=>objD p.1)
theorem xX (a:Addr):objA (objD a)=some a:=rfl
section
variable {tb:List (Addr×Tri)} {m:Addr} {kb:List (Int×Addr)} {E:Ev} {o i:Expr} {b:Addr} {t:Tri} {k0 k1:Nat}
theorem sU {k:Int}(hg:sV o=true/\SubS.notSlice i=true)(ho:E.e V o=some (objD b,k0))(hi:E.e V i=some (.int k,k1)):y8 E tb m kb V o i=if b=m then (kb.lookup k).bind λb=>some (objD b,0) else tupIx tb b k :=
 (if_pos hg).trans ((bO ho).trans ((bO (xX b)).trans (gI hi)))
theorem fV {k:Int}(hg:sV o=true/\SubS.notSlice i=true)(ho:E.e V o=some (objD b,k0))(hi:E.e V i=some (.int k,k1))(hne:b≠m)(hl:tb.lookup b=some t):y8 E tb m kb V o i=if k=0 then some (.int t.1,0) else if k=1 then some (.int (t.2.1:Int),0) else if k=2 then some (.int (t.2.2:Int),0) else none :=
 (sU hg ho hi).trans ((if_neg hne).trans (bO hl))
theorem mI {k:Int}{b':Addr}(hg:sV o=true/\SubS.notSlice i=true)(ho:E.e V o=some (objD m,k0))(hi:E.e V i=some (.int k,k1))(hl:kb.lookup k=some b'):y8 E tb m kb V o i=some (objD b',0) :=
 (sU hg ho hi).trans ((if_pos rfl).trans (bO hl))
end
theorem seq3 {x y z x' y' z':Value}{m:Nat}(h:some (seqObj "tuple" #[x,y,z] n)=some (seqObj "tuple" #[x',y',z'] m)):x=x'/\y=y'/\z=z':=by
 have h3:=congrArg Obj.data (Option.some.inj h)
 injection h3 with h3 _
 have h4:[x,y,z]=[x',y',z']:=congrArg Array.toList h3
 have h5:=List.cons.inj h4
 have h6:=List.cons.inj h5.2
 exact⟨h5.1,h6.1,(List.cons.inj h6.2).1⟩
theorem tup_det {t t':Tri}(x:TupAt h (.ref a) t)(y:TupAt h (.ref a) t'):t=t':=by
 obtain⟨a1,n1,u1,u2,u3,e1,h1⟩:=x
 obtain⟨a2,n2,v1,v2,v3,e2,h2⟩:=y
 cases e1; cases e2
 have h3:=seq3 ((show h.get? a=_ from h1).symm.trans h2)
 exact Prod.ext (Value.int.inj h3.1).1 (Prod.ext (Int.ofNat_inj.mp (Value.int.inj h3.2.1).1) (Int.ofNat_inj.mp (Value.int.inj h3.2.2).1))
theorem wN {tb:List (Addr×Tri)}(H:∀p∈tb,TupAt h (.ref p.1) p.2){p:Addr×Tri}(hp:p∈tb):tb.lookup p.1=some p.2:=by
 cases e:tb.lookup p.1 with
 | none =>
  exfalso
  induction tb with
  | nil=>cases hp
  | cons q tb ih =>
   rw [List.lookup_cons] at e
   split at e
   ·cases e
   ·rename_i hne
    rcases List.mem_cons.mp hp with rfl | hp
    ·rw [beq_self_eq_true] at hne; cases hne
    ·exact ih (λp hp=>H p (List.mem_cons_of_mem _ hp)) hp e
 | some t=>exact congrArg some (tup_det (H _ (lookA e)) (H p hp))
noncomputable abbrev TM (tb:List (Addr×Tri)) (m:Addr) (kb:List (Int×Addr)):Tab:=TK2 [rowEnt] tb m kb
section
variable {tb:List (Addr×Tri)} {m:Addr} {kb:List (Int×Addr)} {g:List Nat} {l:Nat} {X:Rho->List Stmt->Option (Fl×Rho)} {L:List (Str×D)}
theorem jW (h5:g.length=5)(l:Nat):(TM tb m kb).call "_law_row" [natD g,.int (l:Int)]=some (natD (rowF g l)):=by
 show rowEnt.2 [natD g,.int (l:Int)]=_
 show lsI (λis=>rowC is (l:Int)) (natD g)=_
 refine(bO (toInts_map (a7 g))).trans ?_
 unfold rowC
 rw [if_pos (by unfold a7; rw [List.length_map]; exact h5),row_is]
theorem row_step (h5:g.length=5)(H:Has mlN L V)(hg:V.is "groups" (natD g))(hl:V.is "label" (.int (l:Int))):bB (Ev.at (TM tb m kb) 12) X V (lbB.getD 0 noSt)=some (.next,V.put "row" (natD (rowF g l)) 0):=by
 conv in lbB.getD 0 noSt=>whnf
 exact bY (H.st rfl) rfl (r_fn (vs:=[(natD g,0),(.int (l:Int),0)]) rfl (H.glob rfl) rfl (dM (aC rfl rfl hg) (aC rfl rfl hl)) rfl rfl rfl rfl (jW h5 l))
theorem zZ (x y:Bool):cmpD .NotEq (.bool x) (.bool y)=some (x != y):=by cases x <;> cases y <;> rfl
theorem wU {b:Addr}{t:Tri}(hne:b≠m)(hl:tb.lookup b=some t){p1 p2 p3:Pos}{kc:Nat}:(Ev.at (TM tb m kb) (n+1)).e (V.set "step" (objD b) 0) (.Subscript (.Name "step" p1) (.Constant (.int 1) kc p2) p3)=some (.int (t.2.1:Int),0)/\(Ev.at (TM tb m kb) (n+1)).e (V.set "step" (objD b) 0) (.Subscript (.Name "step" p1) (.Constant (.int 2) kc p2) p3)=some (.int (t.2.2:Int),0) :=
 ⟨r_hk (show(TM tb m kb).hook (V.set "step" (objD b) 0) (.Subscript (.Name "step" p1) (.Constant (.int 1) kc p2) p3)=some (.int (t.2.1:Int),0) from fV (E:=Ev.at (TK1 tb m kb) 5) (kb:=kb) (V:=V.set "step" (objD b) 0) (o:=.Name "step" p1) (i:=.Constant (.int 1) kc p2) (k:=1) ⟨rfl,rfl⟩ (aC rfl rfl bS) (bQ rfl) hne hl),r_hk (show(TM tb m kb).hook (V.set "step" (objD b) 0) (.Subscript (.Name "step" p1) (.Constant (.int 2) kc p2) p3)=some (.int (t.2.2:Int),0) from fV (E:=Ev.at (TK1 tb m kb) 5) (kb:=kb) (V:=V.set "step" (objD b) 0) (o:=.Name "step" p1) (i:=.Constant (.int 2) kc p2) (k:=2) ⟨rfl,rfl⟩ (aC rfl rfl bS) (bQ rfl) hne hl)⟩
theorem out_step (h5:g.length=5)(hb:∀p∈tb,p.2.2.1 < 5/\p.2.2.2 < 5)(hk:∀p∈tb,tb.lookup p.1=some p.2)(hm:∀p∈tb,p.1≠m)(hz:tb.length<=100)(H:Has mlN L V)(hs:V.is "steps" (lY tb))(hg:V.is "groups" (natD g))(hl:V.is "label" (.int (l:Int))) :
  bB (Ev.at (TM tb m kb) 12) X V (inB.getD 0 noSt)=some (.next,V.put "out" (.list ((tb.filter λp=>leaves g l p.2).map λp=>objD p.1)) 0):=by
 rw [<- eW]
 conv in inB.getD 0 noSt=>whnf
 refine w8 (H.st rfl) (H.swaps rfl) (cA (items:=tb.map λp=>objD p.1) rfl ⟨rfl,rfl,?_,rfl⟩ (sS rfl (aC rfl rfl hs)) (nJ λp hp=>sQ (b:=leaves g l p.2) (cU (a:=.bool (at5 g p.2.2.1==l)) (b:=.bool (at5 g p.2.2.2==l)) rfl (r_cmp rfl rfl (r_ix rfl rfl (aC rfl rfl (aX (aV rfl hg) rfl)) (wU (hm p hp) (hk p hp)).1 (cZ (by rw [h5]; exact(hb p hp).1))) (aC rfl rfl (aX (aV rfl hl) rfl)) (by rw [<- i9]; rfl)) (r_cmp rfl rfl (r_ix rfl rfl (aC rfl rfl (aX (aV rfl hg) rfl)) (wU (hm p hp) (hk p hp)).2 (cZ (by rw [h5]; exact(hb p hp).2))) (aC rfl rfl (aX (aV rfl hl) rfl)) (by rw [<- i9]; rfl)) (zZ _ _)) (aC rfl rfl bS)) ?_)
 ·exact(⟨H.sc,λx d hx=>by
   have:=PySem.mem_of_lookup hx
   simp only [List.mem_cons,List.not_mem_nil,or_false,Prod.mk.injEq] at this
   rcases this with ⟨rfl,rfl⟩ | ⟨rfl,rfl⟩ | ⟨rfl,rfl⟩
   ·exact hs
   ·exact hg
   ·exact hl⟩:Has mlN [("steps",lY tb),("groups",natD g),("label",.int (l:Int))] V).free rfl
 ·rw [eW,List.length_map]
  exact Nat.le_trans (Nat.le_trans (List.length_filter_le _ _) hz) (by decide)
end
end
section
structure TbAt (c:Fx) (tb:List (Addr×Tri)) (W:Avoid) (s:Shared):Prop where
 tup:∀p∈tb,TupAt s.heap (.ref p.1) p.2
 p:∀p∈tb,¬c.P p.1
 f:∀p∈tb,¬c.Fc p.1
 w:∀p∈tb,¬W p.1
noncomputable def inTb (tb:List (Addr×Tri)):Avoid:=λb=>∃p∈tb,p.1=b
theorem eN {b:Addr}{t:Tri}(x:TupAt h (.ref b) t)(k:∀o,h.get? b=some o->h'.get? b=some o):TupAt h' (.ref b) t:=by
 obtain⟨a,n,t1,t2,t3,e,hT⟩:=x
 cases e
 exact⟨b,n,t1,t2,t3,rfl,k _ hT⟩
theorem wK {b:Addr}{t:Tri}(x:TupAt h (.ref b) t):∃o,h.get? b=some o:=by
 obtain⟨a,n,t1,t2,t3,e,hT⟩:=x
 cases e
 exact⟨_,hT⟩
section
variable {W:Avoid} {tb:List (Addr×Tri)}
noncomputable abbrev Fx.gd (c:Fx) (tb:List (Addr×Tri)) (O:Avoid) (s:Shared):Fx:=c.prot (λb=>c.Z b\/inTb tb b) O s
theorem Run.guard (r:Run c O No W V s)(B:TbAt c tb W s):Run (c.gd tb O s) O No W V s :=
 r.prot λb hb=>by
  rcases hb with hb | ⟨p,hp,rfl⟩
  ·exact⟨r.zx b (r.zo b hb).1,(r.zo b hb).2⟩
  ·exact⟨wK (B.tup p hp),B.p p hp,λh=>h,B.w p hp,B.f p hp⟩
theorem Run.unguard {O' W':Avoid}(r':Run (c.gd tb O s) O' No W' V' s')(r:Run c O No W V s)(B:TbAt c tb W s):Run c O' No W' V' s'/\TbAt c tb W' s' :=
 ⟨r'.unprot r (λb h=>.inl h) (λb h=>h) r.ou,λp hp=>eN (B.tup p hp) λo=>r'.zk _ o (.inr ⟨p,hp,rfl⟩),B.p,B.f,λp hp=>(r'.zo _ (.inr ⟨p,hp,rfl⟩)).2.2.2.1⟩
theorem TbAt.keeps (B:TbAt c tb W s)(k:Keeps s s'):TbAt c tb W s':=⟨λp hp=>eN (B.tup p hp) λo=>aA k _ o,B.p,B.f,B.w⟩
theorem TbAt.chg (B:TbAt c tb W s)(k:Chg (PM c.P No) s s'):TbAt c tb W s':=⟨λp hp=>eN (B.tup p hp) λo=>k.2 _ o (λz=>z.elim (B.p p hp) id),B.p,B.f,B.w⟩
end
theorem b9 {m:Addr}{kvs:List (Int×Value)}(x:h.DictOf (intKind g.prog g.w) m kvs)(k:∀o,h.get? m=some o->h'.get? m=some o):h'.DictOf (intKind g.prog g.w) m kvs:=by
 obtain⟨o,es,ep,h1,h2⟩:=x
 exact⟨o,es,ep,k o h1,h2⟩
noncomputable abbrev kvM (kb:List (Int×Addr)):List (Int×Value):=kb.map λp=>(p.1,Value.ref p.2)
structure LbS (g:Glob) (σ:SS) (kb:List (Int×Addr)) (l:LayS) (m a:Addr) (bs:List Addr) (H:Nat->Nat->Int) (W:Avoid) (s:Shared):Prop where
 srt:Srt g T1 s.heap l σ
 rd:l.rd=[]
 dict:s.heap.DictOf (intKind g.prog g.w) m (kvM kb)
 nst:Nest s.heap a bs (tabL H)
 lw:∀b,l.W b->W b
 mw:W m
 bw:∀b∈a::bs,W b
 ml:¬l.W m
 bl:∀b∈a::bs,¬l.W b
 mb:∀b∈a::bs,b≠m
theorem LbS.keep {kb:List (Int×Addr)}{m:Addr}{bs:List Addr}{H:Nat->Nat->Int}{W W':Avoid}(L:LbS g σ kb l m a bs H W s)(hw:∀b,W b->W' b)(k:∀b o,W b->s.heap.get? b=some o->s'.heap.get? b=some o):LbS g σ kb l m a bs H W' s' :=
 ⟨L.srt.keeps λb o hb=>k b o (L.lw b hb),L.rd,b9 L.dict λo=>k m o L.mw,L.nst.keeps λb o hb=>k b o (L.bw b hb),λb hb=>hw b (L.lw b hb),hw m L.mw,λb hb=>hw b (L.bw b hb),L.ml,L.bl,L.mb⟩
theorem LbS.stays {kb:List (Int×Addr)}{m:Addr}{bs:List Addr}{H:Nat->Nat->Int}{W:Avoid}(L:LbS g σ kb l m a bs H W s)(k:∀b o,W b->s.heap.get? b=some o->s'.heap.get? b=some o):LbS g σ kb l m a bs H W s':=L.keep (λzw h=>h) k
theorem known_gx {W:Avoid}{tb:List (Addr×Tri)}{m:Addr}{kb:List (Int×Addr)}(r:Run c O No W V s)(B:TbAt c tb W s)(hm:W m)(D:kb=[]\/s.heap.DictOf (intKind c.g.prog c.g.w) m (kvM kb)):Known r.gx r.gx.h tb m kb :=
 ⟨λp hp=>eN (B.tup p hp) λo e=>r.gxIn e (B.p p hp),D.imp id λD=>b9 (g:=c.g) D λo e=>r.gxIn e (r.wp m hm).p⟩
theorem tm_ok {W:Avoid}{tb:List (Addr×Tri)}{m:Addr}{kb:List (Int×Addr)}(G:Gr1 c.g P)(hn:2<=c.n)(r:Run c O No W V s)(B:TbAt c tb W s)(hm:W m)(D:kb=[]\/s.heap.DictOf (intKind c.g.prog c.g.w) m (kvM kb))(j:Nat):(Ev.at (TM tb m kb) j).Ok r.gx c.n:=by
 have G':Gr1 r.gx P:=gr1 G.k
 refine TK2_ok (by (exact Nat.le_of_lt (by assumption))) G'.names (λe he=>?_) (known_gx r B hm D) j
 cases List.mem_singleton.mp he
 obtain⟨k,hk⟩:∃k,c.n=k+2:=⟨c.n - 2,by omega⟩
 rw [hk]
 exact rowE_ok (n:=k+1) G' (by (simp +arith))
theorem Run.stmM {W:Avoid}{tb:List (Addr×Tri)}{m:Addr}{kb:List (Int×Addr)}{st:Stmt}{Q:Flow->Shared->Prop}(G:Gr1 c.g P)(hn:2<=c.n)(r:Run c O No W V s)(B:TbAt c tb W s)(hm:W m)(D:kb=[]\/s.heap.DictOf (intKind c.g.prog c.g.w) m (kvM kb))
  (h:bB (Ev.at (TM tb m kb) 12) (run (Ev.at (TM tb m kb) 12) 2) V st=some (.next,V')) (q:∀s',(∀b o,W b->s.heap.get? b=some o->s'.heap.get? b=some o)->Run c O No W V' s'->TbAt c tb W s'->Q .next s'):wpAny c.g.M c.Ar (exec st c.env) Q E s :=
 r.stmX (kD (tm_ok G hn r B hm D 12) 2 h) λfl s' hf ch r'=>by
  have hf:fl=.next:=hf
  subst hf
  exact q s' (r.same ch) r' (B.chg ch)
end
section
structure Bnd (σ:SS) (k:Nat):Prop where
 len:σ.nodes.length<=2*k
 suc:σ.sucLe k
theorem Bnd.add (b:Bnd σ k)(x p:Int):Bnd (σ.add x [p]) (k+1):=by
 refine⟨?_,?_⟩
 ·show(((((σ.touch x).upd x _).touch p).upd p _)).nodes.length<=_
  rw [mZ]
  refine Nat.le_trans (iI _ _) ?_
  rw [mZ]
  have:=iI σ x
  have:=b.len
  omega
 ·exact lQ (qH (iH b.suc) (λn hn=>hn) (Nat.le_refl _))
theorem lP:∀(zs:List (Nat×Nat)) {σ:SS} {k:Nat},Bnd σ k->Bnd (jI σ zs) (k+zs.length)
 | [],_,_,b=>b
 | z::zs,_,k,b=>by
  have:=lP zs (b.add (z.2:Int) (z.1:Int))
  rw [List.length_cons,<- Nat.add_assoc,Nat.add_right_comm]
  exact this
theorem rS (g:List Nat)(fl:Nat->Nat)(l:Nat):(zipF g fl l).length<=5:=by
 unfold zipF
 rw [List.length_zip]
 refine Nat.le_trans (Nat.min_le_right _ _) ?_
 unfold rowF
 exact Nat.le_trans (List.length_filter_le _ _) (by decide)
theorem oV (g:List Nat)(fl:Nat->Nat):∀n,Bnd (dP g fl n) (5*n)
 | 0=>⟨Nat.le_refl _,λzw h=>by cases h⟩
 | n+1=>by
  have b:=lP (zipF g fl n) (oV g fl n)
  have hz:=rS g fl n
  have e:dP g fl (n+1)=jI (dP g fl n) (zipF g fl n):=by
   unfold dP
   rw [List.range_succ,List.foldl_append]; rfl
  rw [e]
  refine⟨Nat.le_trans b.len (by omega),λnd h=>Nat.le_trans (b.suc nd h) (by omega)⟩
theorem LbS.call {σ':SS}{kb:List (Int×Addr)}{l':LayS}{m:Addr}{bs:List Addr}{H:Nat->Nat->Int}{W VV:Avoid}(L:LbS g σ kb l m a bs H W s)(ef:Eff l.W F s VV s')(hV:∀b,l'.W b->VV b)(S:Srt g T1 s'.heap l' σ')(hr:l'.rd=[])(kp:∀b o,W b->¬l.W b->s.heap.get? b=some o->s'.heap.get? b=some o):LbS g σ' kb l' m a bs H (λb=>W b\/VV b) s':=by
 have old:∀b,¬l.W b->(∃o,s.heap.get? b=some o)->¬l'.W b:=λb h ⟨o,e⟩ z=>(ef.new b (hV b z)).elim h λz=>by rw [e] at z; cases z
 exact⟨S,hr,b9 L.dict λo=>kp m o L.mw L.ml,L.nst.keeps λb o hb=>kp b o (L.bw b hb) (L.bl b hb),λb h=>.inr (hV b h),.inl L.mw,λb hb=>.inl (L.bw b hb),old m L.ml (by obtain⟨o,_,_,e,_⟩:=L.dict; exact⟨o,e⟩),λb hb=>old b (L.bl b hb) (L.nst.alloc b hb),L.mb⟩
theorem zip_mk {α β:Type}(f:α->D)(h:β->D)(as:List α)(bs:List β):zipL (as.map f) (bs.map h)=(as.zip bs).map λq=>.tuple [f q.1,h q.2]:=by
 unfold zipL
 rw [List.zip_map,List.map_map]; rfl
section
variable {T:Tab}
theorem i_zip {q:Pos}{a b:Expr}{tt:Bool}{x y:D}{xs ys:List D}(hsc:V.sc.lookup ("zip":Str)=some .globalImplicit)(hs:aQ a=true/\aQ b=true)(ha:(Ev.at T n).e V a=some (x,0))(hb:(Ev.at T n).e V b=some (y,0))(hx:iC x=some xs)(hy:iC y=some ys):(Ev.at T (n+1)).i V tt (.Call (.Name "zip" q) [a,b] [] p)=some (zipL xs ys) :=
 i_it ((if_pos ⟨hsc,by rw [List.all_cons,List.all_cons,hs.1,hs.2]; rfl⟩).trans (show dkV ((Ev.at T n).e V a) (λx k=>dkV ((Ev.at T n).e V b) λy k'=>if k=0/\k'=0 then (iC x).bind λxs=>(iC y).bind λys=>some (zipL xs ys) else none)=_ from(gV ha).trans ((gV hb).trans ((if_pos ⟨rfl,rfl⟩).trans ((bO hx).trans ((bO hy).trans rfl))))))
end
theorem qP (xs:List Int):e7 xs (some (-1)) none none=xs.drop (xs.length - 1):=by
 unfold e7
 rw [sliceBounds_plain]
 cases xs with
 | nil=>rfl
 | cons x xs =>
  have e:clipAt (x::xs).length (-1)=xs.length:=by
   have h:=clipAt_cast (x::xs).length (-1)
   rw [List.length_cons] at h ⊢
   rw [if_pos (by decide)] at h
   grind
  show(sliceRange ((clipAt (x::xs).length (-1):Nat):Int) (((x::xs).length:Nat):Int) 1).filterMap _=_
  rw [e,sliceRange_one _ _ (by rw [List.length_cons]; (simp +arith)),sJ _ _ _ (by rw [List.length_cons]; (simp +arith))]
  rw [List.length_cons,Nat.add_sub_cancel]
  refine List.take_of_length_le ?_
  rw [List.length_drop,List.length_cons]; (simp +arith)
end
noncomputable abbrev prZ (q:Nat×Nat):D:=.tuple [.int (q.1:Int),.int (q.2:Int)]
noncomputable def addLp:Stmt:=inB.getD 3 noSt
theorem wC {zs:List (Nat×Nat)}{i:Nat}{q:Nat×Nat}(h:zs[i]?=some q):jI σ (zs.take (i+1))=(jI σ (zs.take i)).add (q.2:Int) [(q.1:Int)]:=by
 unfold jI
 rw [List.take_add_one,h,List.foldl_append]
 rfl
theorem tN {a b:List Nat}(h:a.length+b.length<=100):binD .Add (natD a) 0 (natD b) 0=some (natD (a++b),0):=by
 have h1:((a7 a).map PyData.int).length+((a7 b).map PyData.int).length<=cap:=by
  unfold a7
  rw [List.length_map,List.length_map,List.length_map,List.length_map]
  exact Nat.le_trans h (by decide)
 have h2:some (PyData.list ((a7 a).map .int++(a7 b).map .int),0)=some (PyData.list ((a7 (a++b)).map .int),0):=by
  unfold a7
  rw [List.map_append,List.map_append]
 exact(if_pos ⟨h1,Nat.zero_le _,Nat.zero_le _⟩).trans h2
theorem AK {W:Avoid}{kb:List (Int×Addr)}{m:Addr}{bs:List Addr}{H:Nat->Nat->Int}{fr rw':List Nat}{L:List (Str×D)}{Q:Flow->Shared->Prop}(G:Gr1 c.g P)(hn:4<=c.n)(r:Run c O No W V s)(LS:LbS c.g σ kb l m a bs H W s)(Bn:Bnd σ k)(hk:k+((nL fr++rw').zip rw').length<=100)(hl:rw'.length<=10)(hl2:fr.length<=10)
  (Hn:Has mlN L V) (hso:L.lookup ("sorter":Str)=some (objD l.a)) (hfa:V.is "far" (natD fr)) (hro:V.is "row" (natD rw')) (h1:(L.lookup ("before":Str)).isNone=true) (h2:(L.lookup ("one":Str)).isNone=true)
  (q:∀O' W' V' s' l',Run c O' No W' V' s'->LbS c.g (jI σ ((nL fr++rw').zip rw')) kb l' m a bs H W' s'->l'.a=l.a->Has mlN L V'->Q .next s'):wpAny c.g.M c.Ar (exec addLp c.env) Q E s:=by
 have K:=G.k
 have TK:=G.topo
 have TF:=G.fns
 have N:=G.names
 have ok0:(Ev.at T0 12).Ok c.g c.n:=dH (by (exact Nat.le_trans (by decide) hn)) N fR 12
 have hI:∀{p1 p2 p3 p4 p5 p6 p7 p8 p9 p10:Pos} {k1:Nat},(Ev.at T0 12).i V true (.Call (.Name "zip" p1) [.BinOp (.Subscript (.Name "far" p2) (.Slice (some (.UnaryOp .USub (.Constant (.int 1) k1 p3) p4)) none none p5) p6) .Add (.Name "row" p7) p8,.Name "row" p9] [] p10)=some (((nL fr++rw').zip rw').map prZ):=by
  intro p1 p2 p3 p4 p5 p6 p7 p8 p9 p10 k1
  have e1:(Ev.at T0 10).e V (.Subscript (.Name "far" p2) (.Slice (some (.UnaryOp .USub (.Constant (.int 1) k1 p3) p4)) none none p5) p6)=some (natD (nL fr),0):=by
   refine(xJ (n:=9) (xs:=a7 fr) (l:=some (-1)) (h:=none) (t:=none) (k:=0) rfl (aC rfl rfl hfa) rfl rfl rfl ⟨Nat.zero_le _,by decide⟩).trans ?_
   rw [qP]
   unfold nL
   show _=some (PyData.list ((a7 (fr.drop (fr.length - 1))).map .int),0)
   unfold a7
   rw [List.map_drop,List.map_drop,List.map_drop,List.length_map]
  refine(i_zip (n:=11) (by rw [Hn.sc]; rfl) ⟨rfl,rfl⟩ (b6 (n:=10) (k:=0) (d:=natD (nL fr++rw')) rfl e1 (aC rfl rfl hro) ?_) (aC rfl rfl hro) rfl rfl).trans (congrArg some ?_)
  ·refine tN (Nat.le_trans (Nat.add_le_add (?_:_<=10) hl) (by decide))
   unfold nL
   rw [List.length_drop]; omega
  ·show zipL ((a7 _).map .int) ((a7 _).map .int)=_
   unfold a7
   rw [List.map_map,List.map_map]
   exact zip_mk _ _ _ _
 generalize hzs:(nL fr++rw').zip rw'=zs at hk q hI
 revert hI
 revert q
 revert hk
 revert hzs
 revert zs
 refine id ?_
 intro zs hzs hk q hI
 conv in addLp=>whnf
 refine r.forL (items:=zs.map prZ) (xs:=["before","one"]) rfl rfl ((dH (g:=c.g.now s r.act.up) (by (exact Nat.le_trans (by decide) hn)) ((gr1 (P:=P) (g:=c.g.now s r.act.up) K).names) fR 12).i _ _ _ _ hI) (λi W' V' s'=>∃l',LbS c.g (jI σ (zs.take i)) kb l' m a bs H W' s'/\l'.a=l.a/\Has mlN L V') (λzw zw zw=>False) (λzw zw zw zw zw=>False)
  ?_ ⟨l,LS,rfl,Hn⟩ ?_ ?_ ?_ (λzw zw zw zw zw zw h=>h.elim) (λzw zw zw zw zw zw zw h=>h.elim)
 ·rintro i W' V' s s' ⟨l',S,h⟩ k
  exact⟨l',S.stays k,h⟩
 ·rintro i d W' V' s' hd ⟨l',S,ha,hN⟩
  rw [List.getElem?_map,Option.map_eq_some_iff] at hd
  obtain⟨p,_,rfl⟩:=hd
  refine⟨?_,_,rfl⟩
  rw [List.all_cons,List.all_cons,hN.st (x:="before") rfl,hN.st (x:="one") rfl]; rfl
 ·intro Z O0 t i d O'' W' V' V1 s' E' hd hbd hJ r'
  ((show let Q0:=_; wpAny _ _ _ Q0 _ _); intro Q0)
  refine wp_q λQ' hQ=>?_
  ((show let Q0:=_; wpAny _ _ _ Q0 _ _); intro Q0)
  obtain⟨l',S',hla,hN⟩:=hJ
  obtain⟨qq,hq,rfl⟩:∃q,zs[i]?=some q/\d=prZ q:=by
   rw [List.getElem?_map,Option.map_eq_some_iff] at hd
   obtain⟨p,h1,h2⟩:=hd
   exact⟨p,h1,h2.symm⟩
  have hi:i < zs.length:=(List.getElem?_eq_some_iff.mp hq).1
  have hbd:V1=(V'.put "before" (.int (qq.1:Int)) 0).put "one" (.int (qq.2:Int)) 0:=(Option.some.inj hbd).symm
  subst hbd
  have hN1:=(hN.skip (d:=.int (qq.1:Int)) h1).skip (d:=.int (qq.2:Int)) h2
  have hbe:=Rho.is_ne (x:="one") (d':=.int (qq.2:Int)) (k:=0) (Rho.is_put (V:=V') (x:="before") (d:=.int (qq.1:Int))) rfl
  have hon:=Rho.is_put (V:=V'.put "before" (.int (qq.1:Int)) 0) (x:="one") (d:=.int (qq.2:Int))
  generalize (V'.put "before" (.int (qq.1:Int)) 0).put "one" (.int (qq.2:Int)) 0=V1 at hN1 hbe hon r'
  revert r'
  revert hon
  revert hbe
  revert hN1
  revert V1
  refine id ?_
  intro V1 hN1 hbe hon r'
  have hso2:V1.is "sorter" (objD l'.a):=by rw [hla]; exact hN1.is _ _ hso
  have bn:Bnd (jI σ (zs.take i)) (k+i):=by
   have:=lP (zs.take i) Bn
   rwa [List.length_take,Nat.min_eq_left (Nat.le_of_lt hi)] at this
  refine wpAny_execs_cons (wpAny_Expr_any (prog:=c.g.prog) (w:=c.g.w) (MethodCall_ (r'.name hso2 (by decide) λv rv=>?_)) r'.inter (aJ rfl _ _ _))
  have:=aU rv; subst this
  refine gU S'.srt r'.now TK TK.madd (by decide) (callWith_K r'.now TK.madd.keep (wpAny_items_cons (r'.name hon (by decide) λv1 rv1=>wpAny_items_cons (r'.name hbe (by decide) λv2 rv2=>wpAny_items_nil ⟨r'.now,?_⟩) rfl) rfl))
  obtain⟨t1,rfl⟩:=aH rv1
  have bl:=bn.len
  refine wpAny_call (add_code (n:=c.n - 4) (l:=l') (σ:=jI σ (zs.take i)) (m:=k+i) (ps:=[(qq.1:Int)]) (ws:=[v2]) ((r'.at.le (by show c.n - 4+4<=c.n; (exact Nat.le_of_eq (Nat.sub_add_cancel (Nat.le_trans (by decide) hn))))).sub S'.lw) TK TF N S'.srt S'.rd (.cons rv2 .nil) (by show _+1+1 < 1000; grind) bn.suc (by show k+i+1 < 1000; grind) λs7 l7 ef7 S7 le7=>?_)
  ((show let Q0:=_; wpAny _ _ _ Q0 _ _); intro Q0)
  obtain⟨r7,kp⟩:=r'.effU S'.lw ef7
  refine wpAny_execs_nil (hQ _ _ ⟨_,_,_,r7,l7,?_,le7.a.trans hla,hN1⟩)
  rw [wC hq]
  exact S'.call ef7 (λzw h=>h) S7 (le7.rd.trans S'.rd) kp
 ·intro O1 W1 V1 s_1 hO r1 hJ
  obtain⟨l1,S1,hla,hN⟩:=hJ
  rw [List.length_map,List.take_length] at S1
  exact q _ _ _ _ l1 r1 S1 hla hN
section
theorem tV {kvs:List (Int×Value)}{k:Int}(h:∀p∈kvs,p.1≠k):stored kvs k v=kvs++[(k,v)]:=by
 unfold stored
 have:(kvs.any λkv=>decide (kv.1=k))=false:=by
  rw [List.any_eq_false]
  intro p hp
  simpa using h p hp
 rw [this,if_neg (by decide)]
noncomputable def nbF (tb:List (Addr×Tri)) (g:List Nat) (l:Nat):Addr×Tri:=tb.getD (tb.findIdx λp=>leaves g l p.2) (0,(0,0,0))
noncomputable def kbF (tb:List (Addr×Tri)) (g:List Nat) (n:Nat):List (Int×Addr):=((List.range n).filter g.contains).map λl:Nat=>((l:Int),(nbF tb g l).1)
theorem yP {tb:List (Addr×Tri)}{g:List Nat}{q:Int×Addr}(h:q∈kbF tb g n):q.1 < (n:Int):=by
 obtain⟨l,hl,rfl⟩:=List.mem_map.mp h
 have:=List.mem_range.mp (List.mem_filter.mp hl).1
 show(l:Int) < n
 omega
theorem kb_len (tb:List (Addr×Tri))(g:List Nat)(n:Nat):(kbF tb g n).length<=n:=by
 unfold kbF
 rw [List.length_map]
 exact Nat.le_trans (List.length_filter_le _ _) (by rw [List.length_range]; exact Nat.le_refl _)
theorem q9 {tb:List (Addr×Tri)}{g:List Nat}:kbF tb g (n+1)=if g.contains n=true then kbF tb g n++[((n:Int),(nbF tb g n).1)] else kbF tb g n:=by
 unfold kbF
 rw [List.range_succ,List.filter_append,List.map_append,List.filter_cons,List.filter_nil]
 split
 ·rfl
 ·exact List.append_nil _
theorem rA {tb:List (Addr×Tri)}{g:List Nat}{l:Nat}(hl:g.contains l=true):∀n,l < n->(kbF tb g n).lookup (l:Int)=some (nbF tb g l).1
 | n+1,h=>by
  rw [q9]
  by_cases e:l=n
  ·subst e
   rw [if_pos hl]
   have hno:(kbF tb g l).lookup (l:Int)=none:=by
    refine List.lookup_eq_none_iff.mpr λp hp=>?_
    have:=yP hp
    rw [bne_iff_ne]
    omega
   rw [List.lookup_append,hno]
   show List.lookup (l:Int) [((l:Int),_)]=_
   rw [List.lookup_cons,beq_self_eq_true]
  ·have ih:=rA (tb:=tb) hl n (by omega)
   split
   ·rw [List.lookup_append,ih]; rfl
   ·exact ih
theorem nb_ok {T:Nat->Nat->Int}{tb:List (Addr×Tri)}{g:List Nat}{l:Nat}(N:NearOk T (tb.map (·.2)) g l):(∃os,(tb.filter λp=>leaves g l p.2)=nbF tb g l::os)/\nbF tb g l∈tb/\(nbF tb g l).2=near (tb.map (·.2)) g l/\leaves g l (nbF tb g l).2=true:=by
 have hi:idxN (tb.map (·.2)) g l=tb.findIdx λp=>leaves g l p.2:=by
  unfold idxN
  rw [List.findIdx_map]; rfl
 have hlt:=N.lt
 rw [hi,List.length_map] at hlt
 have hh:=kZ (λp:Addr×Tri=>leaves g l p.2) (0,(0,0,0)) tb hlt
 have h2:(nbF tb g l).2=near (tb.map (·.2)) g l:=by
  unfold near nbF
  rw [hi,List.getD_eq_getElem?_getD,List.getD_eq_getElem?_getD,List.getElem?_map,List.getElem?_eq_getElem hlt]
  rfl
 refine⟨?_,?_,h2,by rw [h2]; exact N.lv⟩
 ·cases e:tb.filter λp=>leaves g l p.2 with
  | nil=>rw [e] at hh; cases hh
  | cons x os =>
   rw [e] at hh
   exact⟨os,by rw [Option.some.inj hh]; rfl⟩
 ·unfold nbF
  rw [List.getD_eq_getElem?_getD,List.getElem?_eq_getElem hlt]
  exact List.getElem_mem _
theorem row_ne {g:List Nat}(h5:g.length=5)(l:Nat):(a7 (rowF g l) != [])=g.contains l:=by
 rw [Bool.eq_iff_iff,bne_iff_ne]
 constructor
 ·intro h
  unfold rowF at h
  cases e:(List.range 5).filter λi=>at5 g i==l with
  | nil=>rw [e] at h; exact absurd rfl h
  | cons x xs =>
   have hx:x∈(List.range 5).filter λi=>at5 g i==l:=by rw [e]; exact List.mem_cons_self ..
   obtain⟨h1,h2⟩:=List.mem_filter.mp hx
   rw [<- eq_of_beq h2]
   exact List.contains_iff_mem.mpr (fY h5 (List.mem_range.mp h1))
 ·intro h e
  obtain⟨i,hi,ei⟩:=qY h5 (List.contains_iff_mem.mp h)
  have:i∈rowF g l:=List.mem_filter.mpr ⟨List.mem_range.mpr hi,by rw [ei,beq_self_eq_true]⟩
  unfold a7 at e
  rw [List.map_eq_nil_iff] at e
  rw [e] at this; cases this
theorem lZ {g:List Nat}{fl:Nat->Nat}:dP g fl (n+1)=jI (dP g fl n) (zipF g fl n):=by
 unfold dP
 rw [List.range_succ,List.foldl_append]; rfl
theorem i7 (g:List Nat)(l:Nat):(rowF g l).length<=5:=by
 unfold rowF
 exact Nat.le_trans (List.length_filter_le _ _) (by decide)
theorem zip_noF {g:List Nat}(h5:g.length=5){fl:Nat->Nat}{l:Nat}(h:g.contains l=false):zipF g fl l=[]:=by
 have e:=row_ne h5 l
 rw [h] at e
 have e:a7 (rowF g l)=[]:=by simpa using e
 unfold a7 at e
 rw [List.map_eq_nil_iff] at e
 unfold zipF
 rw [e,List.zip_nil_right]
section
variable {tb:List (Addr×Tri)} {m:Addr} {kb:List (Int×Addr)} {g:List Nat} {l f:Nat} {X:Rho->List Stmt->Option (Fl×Rho)} {L:List (Str×D)}
theorem out_ix {b:Addr}{t:Tri}{os:List D}(ho:V.is "out" (.list (objD b::os)))(hne:b≠m)(hl:tb.lookup b=some t){p1 p2 p3 p4 p5:Pos}{k0 k1:Nat}:(Ev.at (TM tb m kb) (n+1)).e V (.Subscript (.Subscript (.Name "out" p1) (.Constant (.int 0) k0 p2) p3) (.Constant (.int 1) k1 p4) p5)=some (.int (t.2.1:Int),0)/\(Ev.at (TM tb m kb) (n+1)).e V (.Subscript (.Subscript (.Name "out" p1) (.Constant (.int 0) k0 p2) p3) (.Constant (.int 2) k1 p4) p5)=some (.int (t.2.2:Int),0) :=
 ⟨r_hk (show(TM tb m kb).hook V (.Subscript (.Subscript (.Name "out" p1) (.Constant (.int 0) k0 p2) p3) (.Constant (.int 1) k1 p4) p5)=some (.int (t.2.1:Int),0) from fV (E:=Ev.at (TK1 tb m kb) 5) (kb:=kb) (V:=V) (o:=.Subscript (.Name "out" p1) (.Constant (.int 0) k0 p2) p3) (i:=.Constant (.int 1) k1 p4) (k:=1) ⟨rfl,rfl⟩ (r_ix rfl rfl (aC rfl rfl ho) (bQ rfl) (gZ (i:=0) rfl)) (bQ rfl) hne hl),
  r_hk (show(TM tb m kb).hook V (.Subscript (.Subscript (.Name "out" p1) (.Constant (.int 0) k0 p2) p3) (.Constant (.int 2) k1 p4) p5)=some (.int (t.2.2:Int),0) from fV (E:=Ev.at (TK1 tb m kb) 5) (kb:=kb) (V:=V) (o:=.Subscript (.Name "out" p1) (.Constant (.int 0) k0 p2) p3) (i:=.Constant (.int 2) k1 p4) (k:=2) ⟨rfl,rfl⟩ (r_ix rfl rfl (aC rfl rfl ho) (bQ rfl) (gZ (i:=0) rfl)) (bQ rfl) hne hl)⟩
theorem far_step {b:Addr}{t:Tri}{os:List D}(h5:g.length=5)(hb:t.2.1 < 5/\t.2.2 < 5)(hf:((at5 g t.2.1:Nat):Int)+((at5 g t.2.2:Nat):Int) - (l:Int)=(f:Int))(H:Has mlN L V)(ho:V.is "out" (.list (objD b::os)))(hne:b≠m)(hk:tb.lookup b=some t)(hg:V.is "groups" (natD g))(hl:V.is "label" (.int (l:Int))) :
  bB (Ev.at (TM tb m kb) 12) X V (inB.getD 2 noSt)=some (.next,V.put "far" (natD (rowF g f)) 0):=by
 conv in inB.getD 2 noSt=>whnf
 exact bY (H.st rfl) rfl (r_fn (vs:=[(natD g,0),(.int (f:Int),0)]) rfl (H.glob rfl) rfl (dM (aC rfl rfl hg) (b6 rfl (b6 rfl (r_ix rfl rfl (aC rfl rfl hg) (out_ix ho hne hk).1 (cZ (by rw [h5]; exact hb.1))) (r_ix rfl rfl (aC rfl rfl hg) (out_ix ho hne hk).2 (cZ (by rw [h5]; exact hb.2))) rfl) (aC rfl rfl hl) (by rw [<- hf]; rfl))) rfl rfl rfl rfl (jW h5 f))
end
end
noncomputable abbrev mlL (tb:List (Addr×Tri)) (g:List Nat) (a sa m:Addr):List (Str×D):=[("sorter",objD sa),("nearest",objD m),("steps",lY tb),("groups",natD g),("heights",objD a)]
structure TbOk (T:Nat->Nat->Int) (tb:List (Addr×Tri)) (g:List Nat) (W:Avoid) (m:Addr):Prop where
 len:g.length=5
 lt:∀p∈tb,p.2.2.1 < 5/\p.2.2.2 < 5
 sz:tb.length<=100
 near:∀l,g.contains l=true->NearOk T (tb.map (·.2)) g l
theorem zG {T:Nat->Nat->Int}{st:List Tri}{g:List Nat}{l:Nat}(N:NearOk T st g l):((at5 g (near st g l).2.1:Nat):Int)+((at5 g (near st g l).2.2:Nat):Int) - (l:Int)=((farF st g l:Nat):Int):=by
 rcases mJ N with ⟨h1,h2,_⟩ | ⟨h1,h2,_⟩
 ·rw [h1,h2]; grind
 ·rw [h1,h2]; (simp +arith)
theorem vA {W:Avoid}{T:Nat->Nat->Int}{tb:List (Addr×Tri)}{g:List Nat}{m:Addr}{bs:List Addr}{H:Nat->Nat->Int}{Q:Flow->Shared->Prop}(G:Gr1 c.g P)(hn:4<=c.n)(r:Run c O No W V s)(B:TbAt c tb W s)(K:TbOk T tb g W m)(hn5:n < 5)
  (LS:LbS c.g (dP g (farF (tb.map (·.2)) g) n) (kbF tb g n) l m a bs H W s) (Hn:Has mlN (mlL tb g a l.a m) V) (hla:V.is "label" (.int (n:Int)))
  (q:∀O' W' V' s' l',Run c O' No W' V' s'->TbAt c tb W' s'->LbS c.g (dP g (farF (tb.map (·.2)) g) (n+1)) (kbF tb g (n+1)) l' m a bs H W' s'->l'.a=l.a->Has mlN (mlL tb g a l.a m) V'->Q .next s'):wpAny c.g.M c.Ar (execs lbB c.env) Q E s:=by
 have hB:lbB=[lbB.getD 0 noSt,lbB.getD 1 noSt]:=rfl
 rw [hB]
 have hm:∀p∈tb,p.1≠m:=λp hp e=>B.w p hp (e ▸ LS.mw)
 have hk:∀p∈tb,tb.lookup p.1=some p.2:=λp hp=>wN B.tup hp
 have hg:=Hn.is "groups" _ rfl
 have D:kbF tb g n=[]\/s.heap.DictOf (intKind c.g.prog c.g.w) m (kvM (kbF tb g n)):=.inr LS.dict
 refine wpAny_execs_cons (r.stmM G (by (exact Nat.le_trans (by decide) hn)) B LS.mw D (row_step K.len Hn hg hla) λs_1 k1 r1 B1=>?_)
 have LS1:=LS.stays k1
 have H1:Has mlN (mlL tb g a l.a m) (V.put "row" (natD (rowF g n)) 0):=Hn.skip rfl
 have hro:=Rho.is_put (V:=V) (x:="row") (d:=natD (rowF g n))
 have hla1:=Rho.is_ne (x:="row") (d':=natD (rowF g n)) (k:=0) hla rfl
 generalize V.put "row" (natD (rowF g n)) 0=V1 at H1 hro hla1 r1
 revert r1
 revert hla1
 revert hro
 revert H1
 revert V1
 refine id ?_
 intro V1 H1 hro hla1 r1
 ((show let Q0:=_; wpAny _ _ _ Q0 _ _); intro Q0)
 have ok0:(Ev.at T0 12).Ok c.g c.n:=dH (by (exact Nat.le_trans (by decide) hn)) G.names fR 12
 obtain⟨p1,p2,p3,p4,e⟩:∃p1 p2 p3 p4,lbB.getD 1 noSt=.If (.Compare (.Name "row" p1) [.NotEq] [.List [] p2] p3) inB [] p4:=⟨_,_,_,_,rfl⟩
 rw [e]
 clear e
 refine wpAny_execs_cons (wpAny_If (r1.testG (b:=g.contains n) (ok0.t _ _ _ (cU rfl (aC rfl rfl hro) (show(Ev.at T0 11).e V1 (.List [] _)=some (.list (([]:List Int).map .int),0) from rfl) ((ne_ints _ _).trans (congrArg some (row_ne K.len n))))) λs2 k2 r2=>?_))
 have LS2:=LS1.stays (s':=s2) λb o zw=>aA k2 b o
 have B2:=B1.keeps k2
 cases hc:g.contains n with
 | false =>
  refine(if_neg (by decide)).mpr (wpAny_execs_nil (wpAny_execs_nil (q _ _ _ _ l r2 B2 ?_ rfl H1)))
  rw [lZ,zip_noF K.len hc,q9,if_neg (by rw [hc]; decide)]
  exact LS2
 | true =>
  have N:=K.near n hc
  obtain⟨⟨os,hfil⟩,hmem,hnr,_⟩:=nb_ok N
  have hkm:=hk _ hmem
  have hnm:=hm _ hmem
  have hb5:=K.lt _ hmem
  have hfi:=zG N
  rw [<- hnr] at hfi
  refine(if_pos rfl).mpr ?_
  ((show let Q0:=_; wpAny _ _ _ Q0 _ _); intro Q0)
  have hI:inB=[inB.getD 0 noSt,inB.getD 1 noSt,inB.getD 2 noSt,inB.getD 3 noSt]:=rfl
  show wpAny c.g.M c.Ar (execs inB c.env) _ _ _
  rw [hI]
  refine wpAny_execs_cons (r2.stmM G (by omega) B2 LS2.mw (.inr LS2.dict) (out_step K.len K.lt hk hm K.sz H1 (H1.is "steps" _ rfl) (H1.is "groups" _ rfl) hla1) λs3 k3 r3 B3=>?_)
  have LS3:=LS2.stays k3
  rw [hfil,List.map_cons] at r3
  have H3:Has mlN (mlL tb g a l.a m) (V1.put "out" (.list (objD (nbF tb g n).1::os.map λp=>objD p.1)) 0):=H1.skip rfl
  have hou:=Rho.is_put (V:=V1) (x:="out") (d:=.list (objD (nbF tb g n).1::os.map λp=>objD p.1))
  have hro3:=Rho.is_ne (x:="out") (d':=.list (objD (nbF tb g n).1::os.map λp=>objD p.1)) (k:=0) hro rfl
  have hla3:=Rho.is_ne (x:="out") (d':=.list (objD (nbF tb g n).1::os.map λp=>objD p.1)) (k:=0) hla1 rfl
  generalize V1.put "out" (.list (objD (nbF tb g n).1::os.map λp=>objD p.1)) 0=V3 at H3 hou hro3 hla3 r3
  revert r3
  revert hla3
  revert hro3
  revert hou
  revert H3
  revert V3
  refine id ?_
  intro V3 H3 hou hro3 hla3 r3
  have step:∀{Q:Flow->Shared->Prop} {E:Value->Shared->Prop},(∀O4 s4,Run c O4 No W V3 s4->TbAt c tb W s4->LbS c.g (dP g (farF (tb.map (·.2)) g) n) (kbF tb g (n+1)) l m a bs H W s4->Q .next s4)->wpAny c.g.M c.Ar (exec (inB.getD 1 noSt) c.env) Q E s3:=λ{Q E} q0=>by
   conv in inB.getD 1 noSt=>whnf
   refine wpAny_Assign_Subscript (r3.evG (d:=objD (nbF tb g n).1) (k:=0) (ok0.e _ _ _ _ (r_ix rfl rfl (aC rfl rfl hou) (bQ rfl) (gZ (i:=0) rfl))) λv s5 k5 rv r5=>r5.nameA (H3.is "nearest" _ rfl) (by decide) (r5.name hla3 (by decide) λv2 rv2=>?_))
   have:=aU rv; subst this
   obtain⟨tk,rfl⟩:=aH rv2
   have LS5:=LS3.stays (s':=s5) λb o zw=>aA k5 b o
   have B5:=B3.keeps k5
   have hlen:=kb_len tb g n
   refine wpAny_setItem_pairs (intKind_is c.g.prog c.g.w _ tk) LS5.dict (λh6 hd6 hs6=>?_) (by rw [List.length_map]; exact Nat.le_trans hlen (Nat.le_trans (Nat.le_of_lt hn5) (by decide)))
   rw [tV λp hp=>by
    obtain⟨q,hq,rfl⟩:=List.mem_map.mp hp
    exact Int.ne_of_lt (yP hq)] at hd6
   have r6:=dW (tk:=s5.toks+1) r5 hs6 LS.mw (by obtain⟨o,es',ep,h1,_⟩:=hd6; exact⟨o,h1⟩)
   have kp:∀b o,b≠m->s5.heap.get? b=some o->h6.get? b=some o:=λb o hb e=>(hs6.2 b hb).trans e
   refine q0 _ _ r6 ⟨λp hp=>eN (B5.tup p hp) λo=>kp _ o (hm p hp),B.p,B.f,B.w⟩ ⟨LS5.srt.keeps λb o hb=>kp b o λe=>LS.ml (e ▸ hb),LS5.rd,?_,LS5.nst.keeps λb o hb=>kp b o (LS.mb b hb),LS.lw,LS.mw,LS.bw,LS.ml,LS.bl,LS.mb⟩
   rw [q9,if_pos hc,kvM,List.map_append]
   exact hd6
  refine wpAny_execs_cons (step λO4 s4 r4 B4 LS4=>?_)
  refine wpAny_execs_cons (r4.stmM G (by omega) B4 LS4.mw (.inr LS4.dict) (far_step K.len hb5 hfi H3 hou hnm hkm (H3.is "groups" _ rfl) hla3) λs5 k5 r5 B5=>?_)
  have LS5:=LS4.stays k5
  have H5:Has mlN (mlL tb g a l.a m) (V3.put "far" (natD (rowF g (farF (tb.map (·.2)) g n))) 0):=H3.skip rfl
  have hfa:=Rho.is_put (V:=V3) (x:="far") (d:=natD (rowF g (farF (tb.map (·.2)) g n)))
  have hro5:=Rho.is_ne (x:="far") (d':=natD (rowF g (farF (tb.map (·.2)) g n))) (k:=0) hro3 rfl
  generalize V3.put "far" (natD (rowF g (farF (tb.map (·.2)) g n))) 0=V5 at H5 hfa hro5 r5
  have hz:=rS g (farF (tb.map (·.2)) g) n
  refine wpAny_execs_cons (AK (c:=c.gd tb _ s5) (k:=5*n) G hn (r5.guard B5) LS5 (oV g _ n) (Nat.le_trans (Nat.add_le_add_left hz _) (by grind)) (Nat.le_trans (i7 g n) (by decide)) (Nat.le_trans (i7 g _) (by decide)) H5 rfl hfa hro5 rfl rfl λO6 W6 V6 s6 l6 r6 LS6 hl6 H6=>?_)
  obtain⟨r7,B7⟩:=r6.unguard r5 B5
  refine wpAny_execs_nil (wpAny_execs_nil (q _ _ _ _ l6 r7 B7 ?_ hl6 H6))
  rw [lZ]
  exact LS6
noncomputable abbrev mlG (tb:List (Addr×Tri)) (g:List Nat) (a:Addr):List (Str×D):=[("steps",lY tb),("groups",natD g),("heights",objD a)]
theorem tX {W:Avoid}{tb:List (Addr×Tri)}{g:List Nat}{bs:List Addr}{H:Nat->Nat->Int}{Q:Flow->Shared->Prop}(G:Gr1 c.g P)(hn:4<=c.n)(r:Run c O No W V s)(N:Nest s.heap a bs (tabL H))(hW:∀b∈a::bs,W b)(Hn:Has mlN (mlG tb g a) V)
  (q:∀O' W' V' s' l m,Run c O' No W' V' s'->LbS c.g SS.new [] l m a bs H W' s'->Has mlN (mlL tb g a l.a m) V'->Q .next s'):wpAny c.g.M c.Ar (exec (trB.getD 0 noSt) c.env) Q E s:=by
 have K:=G.k
 have TK:=G.topo
 obtain⟨cc,fi⟩:=init1 P
 rw [<- K] at fi
 obtain⟨sk1,sk2⟩:=swK r Hn.sc
 conv in trB.getD 0 noSt=>whnf
 refine Run.assignSw (c:=c) (M:=No) (V:=V) r.rm.handled ?_ rfl rfl (Hn.st rfl) (Hn.st rfl) (Call_ (bG (v:=.ref T1.C) r.act.up r.act.eo (Hn.glob rfl) (by show nsIn c.g.K _ _=_; rw [K]; rfl) (by decide) (callWith_K0 r.now TK.c.keep (wpAny_call (uA (n:=c.n - 2) (r.at.le (by show c.n - 2+2<=c.n; omega)) TK fi λs3 l cx3 S3 hrd hnew=>?_)))))
 ·delta swappedStores
  rw [sk1,sk2]
  rfl
 have kp:∀b o,W b->s.heap.get? b=some o->s3.heap.get? b=some o:=λb o hb e=>(cx3.2 b o id e).2 (r.at.wf b hb)
 have r3:=r.eff (W':=λb=>W b\/l.W b) (cx3.mono (λzw h=>h.elim) λzw h=>h) (λzw h=>.inl h) (λb hb=>hb.imp id (hnew b)) λb hb=>hb.elim (λhb=>by
  obtain⟨o,e⟩:=r.act.aO b (r.wo b hb)
  exact⟨o,kp b o hb e⟩) (S3.al b)
 have N3:=N.keeps (h':=s3.heap) λb o hb=>kp b o (hW b hb)
 refine wpAny_Dict_empty ?_
 have k4:Keeps s3 { s3 with heap:=s3.heap.push { cls:=.type "dict",data:=.dict #[] } }:=aI s3 _ _
 have hm0:s3.heap.get? s3.heap.objs.size=none:=bZ (aD s3)
 have hm4:({ s3 with heap:=s3.heap.push { cls:=.type "dict",data:=.dict #[] } }:Shared).heap.DictOf (intKind c.g.prog c.g.w) s3.heap.objs.size []:=Heap.DictOf.new _
 generalize ({ s3 with heap:=s3.heap.push { cls:=.type "dict",data:=.dict #[] } }:Shared)=s4 at k4 hm4 ⊢
 revert hm4
 revert k4
 revert s4
 refine id ?_
 intro s4 k4 hm4
 generalize s3.heap.objs.size=m at hm0 hm4 ⊢
 have r4:=r3.grow k4 hm0 (by obtain⟨o,es',ep,h1,_⟩:=hm4; exact⟨o,h1⟩)
 have alv:∀b,(∃o,s3.heap.get? b=some o)->b≠m:=λb ⟨o,e⟩ z=>by rw [z,hm0] at e; cases e
 have hold:∀b∈a::bs,¬l.W b:=λb hb z=>by
  obtain⟨o,e⟩:=N.alloc b hb
  rw [hnew b z] at e; cases e
 refine⟨_,_,objD l.a,objD m,r4,.obj,.obj,λs5 r5 k5=>q _ _ _ s5 l m r5 ?_ Hn.put.put⟩
 have L4:LbS c.g SS.new [] l m a bs H (λb=>(W b\/l.W b)\/b=m) s4:=⟨S3.keeps λb o zw e=>aA k4 _ _ e,hrd,hm4,N3.keeps λb o zw e=>aA k4 _ _ e,λb h=>.inl (.inr h),.inr rfl,λb hb=>.inl (.inl (hW b hb)),λz=>alv m (S3.al m z) rfl,hold,λb hb=>alv b (N3.alloc b hb)⟩
 exact L4.stays k5
theorem inX {tb:List (Addr×Tri)}{W:Avoid}(B:TbAt c tb W s):∀b,inTb tb b->(∃o,s.heap.get? b=some o)/\¬c.P b/\¬No b/\¬W b/\¬c.Fc b:=by
 rintro b ⟨p,hp,rfl⟩
 exact⟨wK (B.tup p hp),B.p p hp,λh=>h,B.w p hp,B.f p hp⟩
theorem TbAt.pr {tb:List (Addr×Tri)}{W Z:Avoid}{t:Shared}(B:TbAt c tb W s):TbAt (c.prot Z O t) tb W s:=⟨B.tup,B.p,B.f,B.w⟩
theorem TbAt.up {tb:List (Addr×Tri)}{W Z:Avoid}{t:Shared}(B:TbAt (c.prot Z O t) tb W s):TbAt c tb W s:=⟨B.tup,B.p,B.f,B.w⟩
theorem TbAt.stays {tb:List (Addr×Tri)}{W:Avoid}(B:TbAt c tb W s)(k:∀b o,inTb tb b->s.heap.get? b=some o->s'.heap.get? b=some o):TbAt c tb W s':=⟨λp hp=>eN (B.tup p hp) λo=>k _ o ⟨p,hp,rfl⟩,B.p,B.f,B.w⟩
structure LbJ (c:Fx) (T:Nat->Nat->Int) (tb:List (Addr×Tri)) (g:List Nat) (m a:Addr) (bs:List Addr) (H:Nat->Nat->Int) (l:LayS) (i:Nat) (W:Avoid) (V:Rho) (s:Shared) (l':LayS):Prop where
 bt:TbAt c tb W s
 ls:LbS c.g (dP g (farF (tb.map (·.2)) g) i) (kbF tb g i) l' m a bs H W s
 ha:l'.a=l.a
 nm:Has mlN (mlL tb g a l.a m) V
theorem q7 {W:Avoid}{T:Nat->Nat->Int}{tb:List (Addr×Tri)}{g:List Nat}{m:Addr}{bs:List Addr}{H:Nat->Nat->Int}{Q:Flow->Shared->Prop}(G:Gr1 c.g P)(hn:4<=c.n)(r:Run c O No W V s)(B:TbAt c tb W s)(K:TbOk T tb g W m)
  (LS:LbS c.g SS.new [] l m a bs H W s) (Hn:Has mlN (mlL tb g a l.a m) V)
  (q:∀O' W' V' s' l',Run c O' No W' V' s'->TbAt c tb W' s'->LbS c.g (dP g (farF (tb.map (·.2)) g) 5) (kbF tb g 5) l' m a bs H W' s'->Has mlN (mlL tb g a l'.a m) V'->Q .next s'):wpAny c.g.M c.Ar (exec (trB.getD 1 noSt) c.env) Q E s:=by
 obtain⟨p1,p2,p3,p4,p5,k,e⟩:∃p1 p2 p3 p4 p5 k,trB.getD 1 noSt=.For (.Name "label" p1) (.Call (.Name "range" p3) [.Constant (.int 5) k p4] [] p5) lbB [] p2:=⟨_,_,_,_,_,_,rfl⟩
 rw [e]
 clear e
 refine r.forX (X:=inTb tb) (items:=(bF 0 5 1).map .int) (xs:=["label"]) rfl rfl (inX B) (dA (k:=0) (b:=5) (G.names.range.now _) (Hn.glob rfl) eK rfl rfl).toX (λi W V s=>∃l',LbJ c T tb g m a bs H l i W V s l') (λzw zw zw=>False) (λzw zw zw zw zw=>False)
  ?_ ⟨l,B,LS,rfl,Hn⟩ ?_ ?_ ?_ (λzw zw zw zw zw zw h=>h.elim) (λzw zw zw zw zw zw zw h=>h.elim)
 ·rintro j W V s s' ⟨l',J⟩ k
  exact⟨l',J.bt.stays λb o hb=>k b o (.inr hb),J.ls.stays λb o hb=>k b o (.inl hb),J.ha,J.nm⟩
 ·rintro j d W V s hd ⟨l',J⟩
  exact⟨by rw [List.all_cons,J.nm.st (x:="label") rfl]; rfl,_,rfl⟩
 ·intro Z O0 t i d O' W' V' V1 s' E' hd hbd hJ r'
  ((show let Q0:=_; wpAny _ _ _ Q0 _ _); intro Q0)
  refine wp_q λQ' hQ=>?_
  obtain⟨l',B',L',ha,h⟩:=hJ
  obtain⟨hi,rfl⟩:=iT (n:=5) hd
  have hbd:V1=V'.put "label" (.int (i:Int)) 0:=(Option.some.inj hbd).symm
  subst hbd
  rw [<- ha] at h
  have h1:Has mlN (mlL tb g a l'.a m) (V'.put "label" (.int (i:Int)) 0):=h.skip rfl
  exact vA (c:=c.prot Z O0 t) (T:=T) G hn r' B'.pr ⟨K.len,K.lt,K.sz,K.near⟩ hi L' h1 Rho.is_put λO2 W2 V2 s2 l2 r2 B2 L2 ha2 h2=>hQ _ _ ⟨_,_,_,r2,l2,B2.up,L2,ha2.trans ha,by rw [ha] at h2; exact h2⟩
 ·intro O1 W1 V1 s_1 hO r1 hJ
  obtain⟨l',B',L',ha,h⟩:=hJ
  rw [<- ha] at h
  exact q _ _ _ _ l' r1 B' L' h
section
theorem rng11:∀k < 11,fL 0 ((k:Nat):Int) 1=true/\bF 0 ((k:Nat):Int) 1=(List.range k).map λi:Nat=>(i:Int):=by decide +kernel
theorem lJ:∀l:List (List Int),PyData.canLayAll0 (l.map λxs=>.list (xs.map .int))=true
 | []=>rfl
 | x::l=>(show(PyData.canLayAll0 (x.map .int) && PyData.canLayAll0 (l.map λxs=>.list (xs.map .int)))=true by rw [hY,lJ l]; rfl)
theorem mK:∀l:List (List Int),PyData.depthAll (l.map λxs=>.list (xs.map .int))<=1
 | []=>Nat.zero_le _
 | x::l=>(show max (PyData.depthAll (x.map .int)+1) (PyData.depthAll (l.map λxs=>.list (xs.map .int)))<=1 from Nat.max_le.mpr ⟨Nat.succ_le_succ (jC x),mK l⟩)
theorem gP (l:List (List Int)):SeqAt.shaped (.list (l.map λxs=>.list (xs.map .int)))=true :=
 Bool.and_eq_true_iff.mpr ⟨lJ l,decide_eq_true (show PyData.depthAll _+1<=64 from Nat.le_trans (Nat.succ_le_succ (mK l)) (by decide))⟩
theorem uQ {l:List (List Int)}{r:List Int}(h:l.contains r=true):cmpD .NotIn (.list (r.map .int)) (.list (l.map λxs=>.list (xs.map .int)))=some false:=by
 have e:((l.map λxs=>PyData.list (xs.map .int)).any λy=>PyData.eqv y (.list (r.map .int)))=true:=by
  rw [List.any_map,List.any_eq_true]
  exact⟨r,List.contains_iff_mem.mp h,(eX r r).trans (beq_self_eq_true r)⟩
 exact(if_pos ⟨gQ r,gP l⟩).trans (by rw [e]; rfl)
section
variable {tb:List (Addr×Tri)} {m:Addr} {kb:List (Int×Addr)} {g:List Nat} {f:Nat} {X:Rho->List Stmt->Option (Fl×Rho)} {L:List (Str×D)} {b:Addr} {t:Tri}
theorem near_e1 {p1 p2 p3:Pos}(hd:(x==("__debug__":Str))=false)(hm:V.is "nearest" (objD m))(hx:V.is x (.int (k:Int)))(hk:kb.lookup (k:Int)=some b):(Ev.at (TK1 tb m kb) (n+1)).e V (.Subscript (.Name "nearest" p1) (.Name x p2) p3)=some (objD b,0) :=
 r_hk (show(TK1 tb m kb).hook V (.Subscript (.Name "nearest" p1) (.Name x p2) p3)=some (objD b,0) from mI (E:=Ev.at T0 4) (tb:=tb) (kb:=kb) (V:=V) (o:=.Name "nearest" p1) (i:=.Name x p2) (k:=(k:Int)) ⟨rfl,rfl⟩ (aC rfl rfl hm) (aC rfl hd hx) hk)
theorem near_e {p1 p2 p3:Pos}(hd:(x==("__debug__":Str))=false)(hm:V.is "nearest" (objD m))(hx:V.is x (.int (k:Int)))(hk:kb.lookup (k:Int)=some b):(Ev.at (TM tb m kb) (n+1)).e V (.Subscript (.Name "nearest" p1) (.Name x p2) p3)=some (objD b,0) :=
 r_hk (show(TM tb m kb).hook V (.Subscript (.Name "nearest" p1) (.Name x p2) p3)=some (objD b,0) from mI (E:=Ev.at (TK1 tb m kb) 5) (tb:=tb) (kb:=kb) (V:=V) (o:=.Name "nearest" p1) (i:=.Name x p2) (k:=(k:Int)) ⟨rfl,rfl⟩ (aC rfl rfl hm) (aC rfl hd hx) hk)
theorem qX {p1 p2 p3 p4 p5:Pos}{k1:Nat}{z:Int}(hd:(x==("__debug__":Str))=false)(hm:V.is "nearest" (objD m))(hx:V.is x (.int (k:Int)))(hk:kb.lookup (k:Int)=some b)(hne:b≠m)(hl:tb.lookup b=some t){w:DK}(hz:(if z=0 then some (PyData.int t.1,0) else if z=1 then some (.int (t.2.1:Int),0) else if z=2 then some (.int (t.2.2:Int),0) else none)=some w):(Ev.at (TM tb m kb) (n+1)).e V (.Subscript (.Subscript (.Name "nearest" p1) (.Name x p2) p3) (.Constant (.int z) k1 p4) p5)=some w :=
 r_hk (show(TM tb m kb).hook V (.Subscript (.Subscript (.Name "nearest" p1) (.Name x p2) p3) (.Constant (.int z) k1 p4) p5)=some w from(fV (E:=Ev.at (TK1 tb m kb) 5) (kb:=kb) (V:=V) (o:=.Subscript (.Name "nearest" p1) (.Name x p2) p3) (i:=.Constant (.int z) k1 p4) (k:=z) ⟨rfl,rfl⟩ (near_e1 hd hm hx hk) (bQ rfl) hne hl).trans hz)
theorem yO {r0:Nat}{r:List Int}(h5:g.length=5)(h0:r0 < 5)(H:Has mlN L V)(hr:V.is "ring" (.list (((r0:Int)::r).map .int)))(hg:V.is "groups" (natD g)):bB (Ev.at (TM tb m kb) 12) X V (trB.getD 4 noSt)=some (.next,V.put "kept" (.int ((at5 g r0:Nat):Int)) 0):=by
 conv in trB.getD 4 noSt=>whnf
 exact bY (H.st rfl) rfl (r_ix rfl rfl (aC rfl rfl hg) (r_ix rfl rfl (aC rfl rfl hr) (bQ rfl) (gZ (i:=0) rfl)) (cZ (by rw [h5]; exact h0)))
theorem y9 (h5:g.length=5)(hb:t.2.1 < 5/\t.2.2 < 5)(hf:((at5 g t.2.1:Nat):Int)+((at5 g t.2.2:Nat):Int) - (k:Int)=(f:Int))(H:Has mlN L V)(hg:V.is "groups" (natD g))(hm:V.is "nearest" (objD m))(hx:V.is "kept" (.int (k:Int)))(hk:kb.lookup (k:Int)=some b)(hne:b≠m)(hl:tb.lookup b=some t):bB (Ev.at (TM tb m kb) 12) X V (trB.getD 5 noSt)=some (.next,V.put "gone" (.int (f:Int)) 0):=by
 conv in trB.getD 5 noSt=>whnf
 exact bY (H.st rfl) rfl (b6 rfl (b6 rfl (r_ix rfl rfl (aC rfl rfl hg) (qX rfl hm hx hk hne hl rfl) (cZ (by rw [h5]; exact hb.1))) (r_ix rfl rfl (aC rfl rfl hg) (qX rfl hm hx hk hne hl rfl) (cZ (by rw [h5]; exact hb.2))) rfl) (aC rfl rfl hx) (by rw [<- hf]; rfl))
theorem z9 (h5:g.length=5)(H:Has mlN L V)(hg:V.is "groups" (natD g))(hk:V.is "kept" (.int (k:Int)))(hf:V.is "gone" (.int (f:Int))):bB (Ev.at (TM tb m kb) 12) X V (trB.getD 6 noSt)=some (.next,V.put "both" (natD (rowF g k++rowF g f)) 0):=by
 conv in trB.getD 6 noSt=>whnf
 exact bY (H.st rfl) rfl (b6 rfl (r_fn (vs:=[(natD g,0),(.int (k:Int),0)]) rfl (H.glob rfl) rfl (dM (aC rfl rfl hg) (aC rfl rfl hk)) rfl rfl rfl rfl (jW h5 k)) (r_fn (vs:=[(natD g,0),(.int (f:Int),0)]) rfl (H.glob rfl) rfl (dM (aC rfl rfl hg) (aC rfl rfl hf)) rfl rfl rfl rfl (jW h5 f)) (tN (Nat.le_trans (Nat.add_le_add (i7 g k) (i7 g f)) (by decide))))
end
theorem xA {both:List Int}{i:Nat}(hi:i < both.length):dK (both.map .int) (some (i:Int)) none none++dK (both.map .int) none (some ((i+1:Nat):Int)) none=(both.drop i++both.take (i+1)).map PyData.int:=by
 rw [gO _ _ (by rw [List.length_map]; (exact Nat.le_of_lt (by assumption))),qN _ _ (by rw [List.length_map]; assumption),List.map_append,List.map_drop,List.map_take]
theorem nY {α β:Type}{f:α->β}:∀l:List α,(l.map λi=>[f i]).flatten=l.map f
 | []=>rfl
 | x::l=>by rw [List.map_cons,List.flatten_cons,nY l]; rfl
theorem part_e {R:Ev}{z:Int}(h:R.e V e=some (.int z,k)):gJ R V (some e)=some (some z) :=
 (show dkV (R.e V e) (λd zw=>orE (onI some d) some ((nH d).bind λzw=>some none))=_ from(gV h).trans rfl)
theorem rot_test {both r:List Int}(hl:both.length<=10)(hb:V.is "both" (.list (both.map .int)))(hr:V.is "ring" (.list (r.map .int)))(hsc:V.sc=mlN)(h:(rots both).contains r=true):∃t b p,trB.getD 8 noSt=.If t b [] p/\(Ev.at T0 12).t V t=some false:=by
 refine⟨_,_,_,rfl,?_⟩
 refine cU (b:=.list ((rots both).map λxs=>.list (xs.map .int))) (kb:=0) rfl (aC rfl rfl hr) ?_ (uQ h)
 have hlen:both.length < 11:=by omega
 refine gT rfl ((cA (items:=(List.range both.length).map λi:Nat=>.int (i:Int)) (outs:=(List.range both.length).map λi=>[.list ((both.drop i++both.take (i+1)).map .int)]) rfl ⟨rfl,rfl,eI (V0:=⟨mlN,[("both",(.none,0))]⟩) rfl hsc (λp hp=>by cases List.mem_singleton.mp hp; exact congrArg Option.isSome hb),rfl⟩ ?_ (nJ λi hi=>cD ?_) ?_).trans ?_)
 ·refine(eV (b:=(both.length:Int)) (k:=0) (by rw [hsc]; rfl) rfl (kI (vs:=[(.list (both.map .int),0)]) rfl (by rw [hsc]; rfl) rfl ?_ rfl ?_) (rng11 _ hlen).1).trans ?_
  ·exact(bO (aC rfl rfl hb)).trans rfl
  ·show some (PyData.int ((both.map PyData.int).length:Nat))=_
   rw [List.length_map]
  ·rw [(rng11 _ hlen).2,List.map_map]; rfl
 ·have hi:i < both.length:=List.mem_range.mp hi
  have hbi:=aX (x:="place") (d:=.int (i:Int)) (aV (names:=[(".0",NameKind.local),("place",.local),("both",.free)]) rfl hb) rfl
  refine(b6 (d:=.list ((both.drop i++both.take (i+1)).map .int)) (k:=0) rfl (r_cutD (l:=some (i:Int)) (h:=none) (t:=none) rfl (aC rfl rfl hbi) ?_ rfl rfl ⟨Nat.zero_le _,by decide⟩) (r_cutD (l:=none) (h:=some ((i+1:Nat):Int)) (t:=none) rfl (aC rfl rfl hbi) rfl ?_ rfl ⟨Nat.zero_le _,by decide⟩) ?_)
  ·exact part_e (aC rfl rfl bS)
  ·exact part_e (z:=((i+1:Nat):Int)) (b6 rfl (aC rfl rfl bS) (bQ rfl) rfl)
  ·have h1:(dK (both.map PyData.int) (some (i:Int)) none none).length+(dK (both.map PyData.int) none (some ((i+1:Nat):Int)) none).length<=cap:=by
    rw [<- List.length_append,xA hi,List.length_map,List.length_append,List.length_drop,List.length_take]
    exact Nat.le_trans (show _<=21 by grind) (by decide)
   exact(if_pos ⟨h1,Nat.zero_le _,Nat.zero_le _⟩).trans (by rw [xA hi])
 ·rw [nY,List.length_map,List.length_range]; exact Nat.le_trans hl (by decide)
 ·rw [nY]; unfold rots; rw [List.map_map]; rfl
end
theorem sZ (h:σ.fine=true):∀nd∈σ.nodes,∀x∈nd.succ,σ.has x=true:=λnd hn x hx=>List.all_eq_true.mp (List.all_eq_true.mp h nd hn) x hx
theorem xF {W:Avoid}{kb:List (Int×Addr)}{m:Addr}{bs:List Addr}{H:Nat->Nat->Int}{L:List (Str×D)}{rr:List Int}{Q:Flow->Shared->Prop}(G:Gr1 c.g P)(hn:6<=c.n)(r:Run c O No W V s)(LS:LbS c.g σ kb l m a bs H W s)(hf:σ.fine=true)(hc:σ.cyc=some (some rr))(Hn:Has mlN L V)(hso:V.is "sorter" (objD l.a))
  (q:∀O' s',Run c O' No W (V.put "ring" (.list (rr.map .int)) 0) s'->(∀b o,W b->s.heap.get? b=some o->s'.heap.get? b=some o)->Q .next s'):wpAny c.g.M c.Ar (exec (trB.getD 2 noSt) c.env) Q E s:=by
 have TK:=G.topo
 conv in trB.getD 2 noSt=>whnf
 refine r.assignS rfl (MethodCall_ (r.name hso (by decide) λv rv=>?_))
 ((show let Q0:=_; wpAny _ _ _ Q0 _ _); intro Q0)
 have:=aU rv; subst this
 refine gU LS.srt r.now TK TK.mcyc (by decide) (callWith_K0 r.now TK.mcyc.keep ?_)
 refine wpAny_call (tG (n:=c.n - 2) ((r.at.le (by show c.n - 2+2<=c.n; (exact Nat.le_of_eq (Nat.sub_add_cancel (Nat.le_trans (by decide) hn))))).sub LS.lw) TK G.fns G.names G.set G.iter G.stop LS.srt (sZ hf) hc λv s5 cx S5 rv=>?_)
 have rv:Rd O No s5.heap 0 v (.list (rr.map .int)):=rv
 have kp:∀b o,W b->s.heap.get? b=some o->s5.heap.get? b=some o:=λb o hb e=>(cx.2 b o id e).2 (r.at.wf b hb)
 have r5:=r.eff (W':=W) (cx.mono (λzw h=>h.elim) λzw h=>h) (λzw h=>h) (λzw h=>.inl h) λb hb=>by
  obtain⟨o,e⟩:=r.act.aO b (r.wo b hb)
  exact⟨o,kp b o hb e⟩
 exact r5.store (Hn.st rfl) (rv.imp (λb zw h z=>h (z.elim id (r.wo b))) (λzw zw zw h=>h) (Nat.le_refl _)) λs6 c6 r6=>q _ _ r6 λb o hb e=>r5.same c6 b o hb (kp b o hb e)
theorem qS {W:Avoid}{kb:List (Int×Addr)}{m:Addr}{bs:List Addr}{H:Nat->Nat->Int}{L:List (Str×D)}{rr:List Int}{Q:Flow->Shared->Prop}(G:Gr1 c.g P)(hn:6<=c.n)(r:Run c O No W V s)(LS:LbS c.g σ kb l m a bs H W s)(hf:σ.fine=true)(hc:σ.cyc=some (some rr))(hne:rr≠[])(hro:σ.roots=[])(Hn:Has mlN L V)(hso:V.is "sorter" (objD l.a))(hri:V.is "ring" (.list (rr.map .int)))
  (q:∀O' W' s',Run c O' No W' V s'->(∀b,W b->W' b)->(∀b o,W b->¬l.W b->s.heap.get? b=some o->s'.heap.get? b=some o)->Q .next s'):wpAny c.g.M c.Ar (exec (trB.getD 3 noSt) c.env) Q E s:=by
 have K:=G.k
 have k195:keepIn c.g.K (.ref 195)=true:=by rw [K]; kernel_rfl
 have ok0:(Ev.at T0 12).Ok c.g c.n:=dH (by (exact Nat.le_trans (by decide) hn)) G.names fR 12
 conv in trB.getD 3 noSt=>whnf
 refine wpAny_If (isTrue_or (r.testG (b:=false) (ok0.t _ _ _ (cU (b:=.none) (kb:=0) rfl (aC rfl rfl hri) rfl rfl)) λs_1 k1 r1=>?_))
 have LS1:=LS.stays (s':=s_1) λb o zw=>aA k1 b o
 refine(if_neg (by decide)).mpr (isTrue_or (isTrue_not (isTrue_plain (Call_ (bG (v:=.ref 195) r1.act.up r1.act.eo (Hn.glob rfl) (by show nsIn c.g.K _ _=_; rw [K]; rfl) (by decide) (callWith_K r1.now k195 (wpAny_items_cons (r1.nameA hso (by decide) (wpAny_items_nil ⟨r1.now,?_⟩)) rfl)))))))
 refine wpAny_call (pA (n:=c.n - 6) G ((r1.at.le (by show c.n - 6+6<=c.n; (exact Nat.le_of_eq (Nat.sub_add_cancel (Nat.le_trans (by decide) hn))))).sub LS1.lw) LS1.srt LS1.rd (sZ hf) hc hne hro λs2 W2 ef=>?_)
 ((show let Q0:=_; wpAny _ _ _ Q0 _ _); intro Q0)
 obtain⟨r2,kp⟩:=r1.effU LS1.lw ef
 refine wpAny_truthy_bool ((if_neg (by decide)).mpr (isTrue_or_nil ((if_neg (by decide)).mpr (wpAny_execs_nil ?_))))
 exact q _ _ _ r2 (λb h=>.inl h) λb o hb hl e=>kp b o hb hl (aA k1 b o e)
theorem Run.evM {W:Avoid}{tb:List (Addr×Tri)}{m:Addr}{kb:List (Int×Addr)}(G:Gr1 c.g P)(hn:2<=c.n)(r:Run c O No W V s)(B:TbAt c tb W s)(hm:W m)(D:kb=[]\/s.heap.DictOf (intKind c.g.prog c.g.w) m (kvM kb))
  (h:(Ev.at (TM tb m kb) 12).e V e=some (d,k)) (q:∀v s',Keeps s s'->Rd O No s'.heap k v d->Run c O No W V s'->Q v s'):wpAny c.g.M c.Ar (eval e c.env) Q E s:=by
 have up:r.gx.Up s:=λb o e=>of_hideAll _ e
 exact wpAny_mono ((tm_ok G hn r B hm D 12).e _ _ _ _ h O No c.env c.Ar s E up r.rm r.act.aO r.act.aM r.act.eo) (λv s' ⟨k,rd⟩=>q v s' k rd (r.keeps k)) λzw zw z=>z
theorem tup_rd {t:Tri}(x:TupAt h v t):Rd No No h 0 v (tupD t):=by
 obtain⟨a,n,t1,t2,t3,rfl,hT⟩:=x
 refine .tup (λh=>h) (λzw h=>h) ?_ hT (.cons .int (.cons .int (.cons .int .nil)))
 show 3<=cap
 decide
theorem tup_eqv (t:Tri):PyData.eqv (tupD t) (tupD t)=true:=by
 show((t.1==t.1) && (((t.2.1:Int)==(t.2.1:Int)) && (((t.2.2:Int)==(t.2.2:Int)) && true)))=true
 rw [beq_self_eq_true,beq_self_eq_true,beq_self_eq_true]; rfl
theorem w7 {W:Avoid}{tb:List (Addr×Tri)}{m:Addr}{kb:List (Int×Addr)}{f:Nat}{b1 b2:Addr}{t:Tri}{Q:Flow->Shared->Prop}(G:Gr1 c.g P)(hn:2<=c.n)(r:Run c O No W V s)(B:TbAt c tb W s)(hm:W m)(D:s.heap.DictOf (intKind c.g.prog c.g.w) m (kvM kb))
  (hme:V.is "nearest" (objD m)) (hk:V.is "kept" (.int (k:Int))) (hf:V.is "gone" (.int (f:Int))) (h1:kb.lookup (k:Int)=some b1) (h2:kb.lookup (f:Int)=some b2) (m1:(b1,t)∈tb) (m2:(b2,t)∈tb)
  (q:∀s',Keeps s s'->Run c O No W V s'->Q .next s'):wpAny c.g.M c.Ar (exec (trB.getD 7 noSt) c.env) Q E s:=by
 conv in trB.getD 7 noSt=>whnf
 refine wpAny_If (wpAny_isTrue_Compare1 (r.evM G hn B hm (.inr D) (near_e rfl hme hk h1) λv1 s_1 k1 rv1 r1=>?_))
 have D1:=b9 D λo=>aA k1 m o
 refine r1.evM G hn (B.keeps k1) hm (.inr D1) (near_e rfl hme hf h2) λv2 s2 k2 rv2 r2=>?_
 have:=aU rv1; subst this
 have:=aU rv2; subst this
 have B2:=(B.keeps k1).keeps k2
 refine cmp_ne (g:=c.g) (n:=c.n) (ka:=0) (kb:=0) (a:=tupD t) (b:=tupD t) rfl rfl (by (exact Nat.le_of_lt (by assumption))) No No _ s2 _ _ _ _ r2.rm (tup_rd (B2.tup _ m1)) (tup_rd (B2.tup _ m2)) (wpAny_truthy_bool ?_)
 rw [tup_eqv]
 exact(if_neg (by decide)).mpr (wpAny_execs_nil (q _ (aB k1 k2) r2))
theorem yD {W:Avoid}{tb:List (Addr×Tri)}{g:List Nat}{m:Addr}{kb:List (Int×Addr)}{bs:List Addr}{H:Nat->Nat->Int}{L:List (Str×D)}{f:Nat}{b:Addr}{t:Tri}{Q:Flow->Shared->Prop}(G:Gr1 c.g P)(hn:4<=c.n)(r:Run c O No W V s)(B:TbAt c tb W s)(hm:W m)(D:s.heap.DictOf (intKind c.g.prog c.g.w) m (kvM kb))(h5:g.length=5)(N:Nest s.heap a bs (tabL H))(hW:∀b∈a::bs,W b)
  (Hn:Has mlN L V) (hg:V.is "groups" (natD g)) (hh:V.is "heights" (objD a)) (hme:V.is "nearest" (objD m)) (hk:V.is "kept" (.int (k:Int))) (hf:V.is "gone" (.int (f:Int))) (h1:kb.lookup (k:Int)=some b) (hne:b≠m) (hl:tb.lookup b=some t)
  (q:∀O' W' s',Run c O' No W' (V.put "groups" (natD (b7 g k f)) 0) s'->(∀b,W b->W' b)->TbAt c tb W' s'->Nest s'.heap a bs (tabL (kR g H k f t.1))->Q .next s'):wpAny c.g.M c.Ar (exec (trB.getD 9 noSt) c.env) Q E s:=by
 have K:=G.k
 have k183:keepIn c.g.K (.ref 183)=true:=by rw [K]; kernel_rfl
 conv in trB.getD 9 noSt=>whnf
 refine r.assignS rfl (Call_ (bG (v:=.ref 183) r.act.up r.act.eo (Hn.glob rfl) (by show nsIn c.g.K _ _=_; rw [K]; rfl) (by decide) (callWith_K r.now k183 ?_)))
 ((show let Q0:=_; let E0:=_; wpAny _ _ _ Q0 E0 _); intro Q0 E0)
 refine wpAny_items_cons (r.name hg (by decide) λv1 rv1=>?_) rfl
 refine wpAny_items_cons (r.nameA hh (by decide) ?_) rfl
 refine wpAny_items_cons (r.name hk (by decide) λv3 rv3=>?_) rfl
 refine wpAny_items_cons (r.name hf (by decide) λv4 rv4=>?_) rfl
 refine wpAny_items_cons (r.evM G (by (exact Nat.le_trans (by decide) hn)) B hm (.inr D) (qX rfl hme hk h1 hne hl rfl) λv5 s4 k4 rv5 r4=>wpAny_items_nil ⟨r4.now,?_⟩) rfl
 have N4:=N.keeps (h':=s4.heap) λb o zw e=>aA k4 _ _ e
 have B4:=B.keeps k4
 refine wpAny_call (pP (n:=c.n - 2) (W:=λb=>b∈a::bs) G ((r4.at.le (by show c.n - 2+2<=c.n; (exact Nat.le_of_eq (Nat.sub_add_cancel (Nat.le_trans (by decide) hn))))).sub hW) h5 (rv1.keeps (aA k4)) N4 (λzw=>Iff.rfl) (rv3.keeps (aA k4)) (rv4.keeps (aA k4)) rv5 λv s5 ef N5 rv=>?_)
 obtain⟨r5,kp⟩:=r4.effU hW ef
 have B5:TbAt c tb (λb=>W b\/b∈a::bs) s5:=⟨λp hp=>eN (B4.tup p hp) λo e=>(ef.cx.2 _ o (λz=>B.w p hp (hW _ z)) e).2 (B.f p hp),B.p,B.f,λp hp z=>B.w p hp (z.elim id (hW _))⟩
 refine r5.store (Hn.st rfl) (rv.imp (λb zw h z=>h (z.elim .inl λz=>z.elim (λw=>.inl (r4.wo b w)) .inr)) (λzw zw zw h=>h) (Nat.le_refl _)) λs6 c6 r6=>q _ _ s6 r6 (λzw h=>.inl h) (B5.chg c6) (N5.keeps λb o hb=>r5.same c6 b o (.inr hb))
theorem wJ {W:Avoid}{T U:Nat->Nat->Int}{tb:List (Addr×Tri)}{g:List Nat}{bs:List Addr}{H:Nat->Nat->Int}{Q:Flow->Shared->Prop}(X:Ult T U)(S:Steps T (tb.map (·.2)))(hz:tb.length<=100)(G:Gr1 c.g P)(hn:8<=c.n)(r:Run c O No W V s)(B:TbAt c tb W s)(GO:GOk g)(hm:many g=true)(I:MInv T U g H)(N:Nest s.heap a bs (tabL H))(hW:∀b∈a::bs,W b)(Hn:Has mlN (mlG tb g a) V)
  (q:∀O' W' V' s' g' H',Run c O' No W' V' s'->TbAt c tb W' s'->GOk g'->cntL g'+1=cntL g->MInv T U g' H'->Nest s'.heap a bs (tabL H')->(∀b∈a::bs,W' b)->Has mlN (mlG tb g' a) V'->Q .next s'):wpAny c.g.M c.Ar (execs trB c.env) Q E s:=by
 have hT:trB=[trB.getD 0 noSt,trB.getD 1 noSt,trB.getD 2 noSt,trB.getD 3 noSt,trB.getD 4 noSt,trB.getD 5 noSt,trB.getD 6 noSt,trB.getD 7 noSt,trB.getD 8 noSt,trB.getD 9 noSt]:=rfl
 rw [hT]
 have hnear:∀l,g.contains l=true->NearOk T (tb.map (·.2)) g l:=λl hl=>eU X S GO hm (List.contains_iff_mem.mp hl)
 have hlt:∀p∈tb,p.2.2.1 < 5/\p.2.2.2 < 5:=λp hp=>by
  obtain⟨_,h1,h2⟩:=S.at (List.mem_map.mpr ⟨p,hp,rfl⟩)
  exact⟨Nat.lt_trans h1 h2,h2⟩
 refine wpAny_execs_cons (tX (c:=c.gd tb O s) G (by show 4<=c.n; omega) (r.guard B) N hW Hn λO1 W1 V1 s_1 l1 m r1' L1 H1=>?_)
 obtain⟨r1,B1⟩:=r1'.unguard r B
 refine wpAny_execs_cons (q7 (T:=T) G (by omega) r1 B1 ⟨GO.len,hlt,hz,hnear⟩ L1 H1 λO2 W2 V2 s2 l2 r2 B2 L2 H2=>?_)
 ((show let Q0:=_; let E0:=_; wpAny _ _ _ Q0 E0 _); intro Q0 E0)
 obtain⟨r0,rr,R,hsame,I',GO',hcnt⟩:=wI X S GO hm I
 have hk5:=fY GO.len R.lt
 have hf5:=lA X S GO hm hk5
 have hkc:=List.contains_iff_mem.mpr hk5
 have hfc:=List.contains_iff_mem.mpr hf5
 have Nk:=hnear _ hkc
 have hfi:=zG Nk
 obtain⟨_,mk,ek,_⟩:=nb_ok Nk
 obtain⟨_,mf,ef,_⟩:=nb_ok (hnear _ hfc)
 have hkb:=rA (tb:=tb) hkc 5 (GO.lt _ hk5)
 have hfb:=rA (tb:=tb) hfc 5 (GO.lt _ hf5)
 have rot:=R.rot
 have hlen:(rN g (farF (tb.map (·.2)) g) (at5 g r0)).length<=10:=by
  unfold rN a7
  rw [List.length_map,List.length_append]
  exact Nat.add_le_add (i7 _ _) (i7 _ _)
 have m2:((nbF tb g (farF (tb.map (·.2)) g (at5 g r0))).1,(nbF tb g (at5 g r0)).2)∈tb:=by
  rw [ek,hsame,<- ef]; exact mf
 rw [<- ek] at I' hfi
 refine wpAny_execs_cons (xF (c:=c.gd tb O2 s2) G (by show 6<=c.n; omega) (r2.guard B2) L2 R.fine R.cyc H2 (H2.is "sorter" _ rfl) λO3 s3 r3' k3=>?_)
 obtain⟨r3,B3⟩:=r3'.unguard r2 B2
 have L3:=L2.stays k3
 have H3:=H2.put (x:="ring") (d:=.list (((r0:Int)::rr).map .int))
 generalize V2.put "ring" (.list (((r0:Int)::rr).map .int)) 0=V3 at r3 r3' H3
 revert H3
 revert r3'
 revert r3
 revert V3
 refine id ?_
 intro V3 r3 r3' H3
 ((show let Q0:=_; wpAny _ _ _ Q0 _ _); intro Q0)
 refine wpAny_execs_cons (qS (c:=c.gd tb O3 s3) G (by show 6<=c.n; omega) (r3.guard B3) L3 R.fine R.cyc (λh=>by cases h) R.roots H3 (H3.is "sorter" _ rfl) (H3.is "ring" _ rfl) λO4 W4 s4 r4' w4 k4=>?_)
 obtain⟨r4,B4⟩:=r4'.unguard r3 B3
 have D4:=b9 L3.dict λo=>k4 m o L3.mw L3.ml
 have N4:=L3.nst.keeps λb o hb=>k4 b o (L3.bw b hb) (L3.bl b hb)
 have hm4:=w4 m L3.mw
 have hW4:∀b∈a::bs,W4 b:=λb hb=>w4 b (L3.bw b hb)
 have hne:(nbF tb g (at5 g r0)).1≠m:=λe=>B4.w _ mk (e ▸ hm4)
 have hlk:=wN B4.tup mk
 refine wpAny_execs_cons (r4.stmM G (by omega) B4 hm4 (.inr D4) (yO GO.len R.lt H3 (H3.is "ring" _ rfl) (H3.is "groups" _ rfl)) λs5 k5 r5 B5=>?_)
 have H5:=H3.put (x:="kept") (d:=.int ((at5 g r0:Nat):Int))
 have D5:=b9 D4 λo=>k5 m o hm4
 have N5:=N4.keeps λb o hb=>k5 b o (hW4 b hb)
 generalize V3.put "kept" (.int ((at5 g r0:Nat):Int)) 0=V5 at r5 H5
 revert H5
 revert r5
 revert V5
 refine id ?_
 intro V5 r5 H5
 refine wpAny_execs_cons (r5.stmM G (by omega) B5 hm4 (.inr D5) (y9 GO.len (hlt _ mk) hfi H5 (H5.is "groups" _ rfl) (H5.is "nearest" _ rfl) (H5.is "kept" _ rfl) hkb hne hlk) λs6 k6 r6 B6=>?_)
 have H6:=H5.put (x:="gone") (d:=.int ((farF (tb.map (·.2)) g (at5 g r0):Nat):Int))
 have D6:=b9 D5 λo=>k6 m o hm4
 have N6:=N5.keeps λb o hb=>k6 b o (hW4 b hb)
 generalize V5.put "gone" (.int ((farF (tb.map (·.2)) g (at5 g r0):Nat):Int)) 0=V6 at r6 H6
 revert H6
 revert r6
 revert V6
 refine id ?_
 intro V6 r6 H6
 refine wpAny_execs_cons (r6.stmM G (by omega) B6 hm4 (.inr D6) (z9 GO.len H6 (H6.is "groups" _ rfl) (H6.is "kept" _ rfl) (H6.is "gone" _ rfl)) λs7 k7 r7 B7=>?_)
 have H7:=H6.put (x:="both") (d:=natD (rowF g (at5 g r0)++rowF g (farF (tb.map (·.2)) g (at5 g r0))))
 have D7:=b9 D6 λo=>k7 m o hm4
 have N7:=N6.keeps λb o hb=>k7 b o (hW4 b hb)
 generalize V6.put "both" (natD (rowF g (at5 g r0)++rowF g (farF (tb.map (·.2)) g (at5 g r0)))) 0=V7 at r7 H7
 revert H7
 revert r7
 revert V7
 refine id ?_
 intro V7 r7 H7
 refine wpAny_execs_cons (w7 G (by omega) r7 B7 hm4 D7 (H7.is "nearest" _ rfl) (H7.is "kept" _ rfl) (H7.is "gone" _ rfl) hkb hfb mk m2 λs8 k8 r8=>?_)
 ((show let Q0:=_; wpAny _ _ _ Q0 _ _); intro Q0)
 have B8:=B7.keeps k8
 have D8:=b9 D7 λo=>aA k8 m o
 have N8:=N7.keeps (h':=s8.heap) λb o zw=>aA k8 b o
 have hbo:V7.is "both" (.list ((rN g (farF (tb.map (·.2)) g) (at5 g r0)).map .int)):=H7.is "both" _ rfl
 have hri:V7.is "ring" (.list (((r0:Int)::rr).map .int)):=H7.is "ring" _ rfl
 have hrt:=rot_test hlen hbo hri H7.sc rot
 obtain⟨tt,tbd,tp,te,ht⟩:=hrt
 rw [te]
 have ok0:(Ev.at T0 12).Ok c.g c.n:=dH (by (exact Nat.le_trans (by decide) hn)) G.names fR 12
 refine wpAny_execs_cons (wpAny_If (r8.testG (ok0.t _ _ _ ht) λs9 k9 r9=>(if_neg (by decide)).mpr (wpAny_execs_nil ?_)))
 have B9:=B8.keeps k9
 have D9:=b9 D8 λo=>aA k9 m o
 have N9:=N8.keeps (h':=s9.heap) λb o zw=>aA k9 b o
 refine wpAny_execs_cons (yD G (by (exact Nat.le_trans (by decide) hn)) r9 B9 hm4 D9 GO.len N9 hW4 H7 (H7.is "groups" _ rfl) (H7.is "heights" _ rfl) (H7.is "nearest" _ rfl) (H7.is "kept" _ rfl) (H7.is "gone" _ rfl) hkb hne hlk λO' W' s' r' w' B' N'=>wpAny_execs_nil (q O' W' _ s' _ _ r' B' GO' hcnt I' N' (λb hb=>w' b (hW4 b hb)) ⟨H7.sc,λx d hx=>?_⟩))
 have:=PySem.mem_of_lookup hx
 simp only [List.mem_cons,List.not_mem_nil,or_false,Prod.mk.injEq] at this
 rcases this with ⟨rfl,rfl⟩ | ⟨rfl,rfl⟩ | ⟨rfl,rfl⟩
 ·exact Rho.is_ne (H7.is _ _ rfl) rfl
 ·exact Rho.is_put
 ·exact Rho.is_ne (H7.is _ _ rfl) rfl
theorem steps_m {W:Avoid}{T:Nat->Nat->Int}{Q:Flow->Shared->Prop}(G:Gr1 c.g P)(hn:2<=c.n)(r:Run c O No W ((⟨mlN,[]⟩:Rho).put "table" (dF (tabL T)) 0) s)
  (q:∀V' s',Run c O No W V' s'->Has mlN [("steps",.list ((dJ T).map tupD))] V'->Q .next s'):wpAny c.g.M c.Ar (exec (mlB.getD 0 noSt) c.env) Q E s:=by
 have K:=G.k
 have Hn:Has mlN [("table",dF (tabL T))] ((⟨mlN,[]⟩:Rho).put "table" (dF (tabL T)) 0):=(show Has mlN [] ⟨mlN,[]⟩ from⟨rfl,λzw zw h=>by cases h⟩).put
 have ok0:(Ev.at T0 12).Ok c.g c.n:=dH (by omega) G.names fR 12
 conv in mlB.getD 0 noSt=>whnf
 refine r.assignS rfl (r.evG (lC (bt1 (x:="sorted") G.k rfl rfl (by decide)) (Hn.glob rfl) (by decide) rfl (cQ (ok0.e _ _ (.list ((kM T).map tupD)) 0 (by kernel_rfl)) dX rfl) (jP (ks:=0) (eO T) (by show 2<=10; decide) (by show 10 < 64; decide) (Nat.le_refl 0))) λv s_1 k1 rv1 r1=>r1.store (Hn.st rfl) rv1 λs2 c2 r2=>q _ s2 r2 ⟨rfl,λx d hx=>?_⟩)
 have:=PySem.mem_of_lookup hx
 simp only [List.mem_cons,List.not_mem_nil,or_false,Prod.mk.injEq] at this
 obtain⟨rfl,rfl⟩:=this
 exact Rho.is_put
theorem gh_m {d0:D}{Q:Flow->Shared->Prop}(G:Gr1 c.g P)(hn:2<=c.n)(r:Run c O No No V s)(Hn:Has mlN [("steps",d0)] V)
  (q:∀O' a bs V' s',Run c O' No (λb=>No b\/b∈a::bs) V' s'->Nest s'.heap a bs (tabL λzw zw=>0)->Has mlN [("steps",d0),("groups",natD g0),("heights",objD a)] V'->Q .next s'):wpAny c.g.M c.Ar (exec (mlB.getD 1 noSt) c.env) Q E s:=by
 have hs:=Hn.is "steps" _ rfl
 obtain⟨sk1,sk2⟩:=swK r Hn.sc
 conv in mlB.getD 1 noSt=>whnf
 refine Run.assignNo (c:=c) (M:=No) (V:=V) r.rm.handled ?_ rfl rfl (Hn.st rfl) (Hn.st rfl) (r.startGH (c:=c) G (by omega) rfl (Hn.glob rfl) rfl (by rw [Hn.sc]; rfl) rfl λv a bs s2 r2 zw N2 fr rv2=>⟨_,_,_,_,r2,rv2,.obj,λs3 r3 kp=>?_⟩)
 ·delta swappedStores
  rw [sk1,sk2]
  rfl
 ·exact q _ a bs _ s3 r3 (N2.keeps λb o hb=>kp b o (.inr hb)) ⟨Hn.sc,λx d hx=>by
   have:=PySem.mem_of_lookup hx
   simp only [List.mem_cons,List.not_mem_nil,or_false,Prod.mk.injEq] at this
   rcases this with ⟨rfl,rfl⟩ | ⟨rfl,rfl⟩ | ⟨rfl,rfl⟩
   ·exact Rho.is_ne (Rho.is_ne hs rfl) rfl
   ·exact Rho.is_ne Rho.is_put rfl
   ·exact Rho.is_put⟩
structure MlK (c:Fx) (T U:Nat->Nat->Int) (tb:List (Addr×Tri)) (a:Addr) (bs:List Addr) (i:Nat) (W:Avoid) (V:Rho) (s:Shared) (g:List Nat) (H:Nat->Nat->Int):Prop where
 bt:TbAt c tb W s
 ok:GOk g
 cn:cntL g+i=5
 iv:MInv T U g H
 ns:Nest s.heap a bs (tabL H)
 ww:∀b∈a::bs,W b
 nm:Has mlN (mlG tb g a) V
noncomputable def MlJ (c:Fx) (T U:Nat->Nat->Int) (tb:List (Addr×Tri)) (a:Addr) (bs:List Addr) (i:Nat) (W:Avoid) (V:Rho) (s:Shared):Prop:=∃g H,MlK c T U tb a bs i W V s g H
theorem turns_m {W:Avoid}{T U:Nat->Nat->Int}{tb:List (Addr×Tri)}{bs:List Addr}{Q:Flow->Shared->Prop}(X:Ult T U)(S:Steps T (tb.map (·.2)))(hz:tb.length<=100)(G:Gr1 c.g P)(hn:8<=c.n)(r:Run c O No W V s)(J:MlJ c T U tb a bs 0 W V s)(B:TbAt c tb W s)(hsc:V.sc=mlN)
  (q:∀O' W' V' s',Run c O' No W' V' s'->MlJ c T U tb a bs 4 W' V' s'->Q .next s'):wpAny c.g.M c.Ar (exec (mlB.getD 2 noSt) c.env) Q E s:=by
 obtain⟨p1,p2,p3,p4,p5,k,e⟩:∃p1 p2 p3 p4 p5 k,mlB.getD 2 noSt=.For (.Name "turn" p1) (.Call (.Name "range" p3) [.Constant (.int 4) k p4] [] p5) trB [] p2:=⟨_,_,_,_,_,_,rfl⟩
 rw [e]
 clear e
 refine r.forX (X:=inTb tb) (items:=(bF 0 4 1).map .int) (xs:=["turn"]) rfl rfl (inX B) (dA (k:=0) (b:=4) (G.names.range.now _) (by rw [hsc]; rfl) eK rfl rfl).toX (λi W V s=>MlJ c T U tb a bs i W V s) (λzw zw zw=>False) (λzw zw zw zw zw=>False)
  ?_ J ?_ ?_ ?_ (λzw zw zw zw zw zw h=>h.elim) (λzw zw zw zw zw zw zw h=>h.elim)
 ·rintro j W V s s' ⟨g,H,K⟩ k
  exact⟨g,H,K.bt.stays λb o hb=>k b o (.inr hb),K.ok,K.cn,K.iv,K.ns.keeps λb o hb=>k b o (.inl (K.ww b hb)),K.ww,K.nm⟩
 ·rintro j d W V s hd ⟨g,H,K⟩
  exact⟨by rw [List.all_cons,K.nm.st (x:="turn") rfl]; rfl,_,rfl⟩
 ·intro Z O0 t i d O' W' V' V1 s' E' hd hbd hJ r'
  refine wp_q λQ' hQ=>?_
  obtain⟨g,H,K⟩:=hJ
  obtain⟨hi,rfl⟩:=iT (n:=4) hd
  have hbd:V1=V'.put "turn" (.int (i:Int)) 0:=(Option.some.inj hbd).symm
  subst hbd
  have hm:many g=true:=K.ok.many.trans (decide_eq_true (by have:=K.cn; omega))
  exact wJ (c:=c.prot Z O0 t) X S hz G hn r' K.bt.pr K.ok hm K.iv K.ns K.ww (K.nm.skip rfl) λO2 W2 V2 s2 g2 H2 r2 B2 GO2 hc2 I2 N2 hW2 h2=>hQ _ _ ⟨_,_,_,r2,g2,H2,B2.up,GO2,by rw [<- K.cn,<- hc2,Nat.add_assoc,Nat.add_comm 1 i],I2,N2,hW2,h2⟩
 ·intro O1 W1 V1 s_1 hO r1 hJ
  exact q _ _ _ _ r1 hJ
theorem qZ {T U:Nat->Nat->Int}(G:Gr1 g P)(at_:At g (n+9) A O M No F s)(X:Ult T U)(rv:Rd O M s.heap 0 v (dF (tabL T)))
  (q:∀v s',Cx No F s s'->Rd O M s'.heap 0 v (dF (tabL U))->R (.ok (.ret v)) s'):codeAny g.M A (.call (.ref 205) ⟨[v],[]⟩) R s:=by
 obtain⟨cc,fk⟩:=ml1 P
 rw [<- G.k] at fk
 refine eY (n:=n+8) (ds:=[dF (tabL T)]) at_ fk (.cons rv .nil) rfl rfl rfl λenv Pp O' s_1 r hc hk=>?_
 revert r
 (show let c:Fx:=_; Run c _ _ _ _ _->_)
 intro c r
 ((show let Q0:=_; wpAny _ _ _ Q0 _ _); intro Q0)
 have hn:8<=c.n:=by show 8<=n+8; omega
 have hB:mlB=[mlB.getD 0 noSt,mlB.getD 1 noSt,mlB.getD 2 noSt,mlB.getD 3 noSt]:=rfl
 rw [hB]
 refine wpAny_execs_cons (steps_m (c:=c) G (by omega) r λV1 s2 r1 H1=>?_)
 refine wpAny_execs_cons (gh_m (c:=c) G (by omega) r1 H1 λO2 a bs V2 s3 r2 N2 H2=>?_)
 obtain⟨w,rw,rp⟩:=r2.reread (H2.is "steps" _ rfl)
 obtain⟨tb,e1,e2,e3⟩:=qI rw
 have r3:=rp _ e3
 have H3:Has mlN (mlG tb g0 a) (V2.put "steps" (lY tb) 0):=⟨H2.sc,λx d hx=>by
  have:=PySem.mem_of_lookup hx
  simp only [List.mem_cons,List.not_mem_nil,or_false,Prod.mk.injEq] at this
  rcases this with ⟨rfl,rfl⟩ | ⟨rfl,rfl⟩ | ⟨rfl,rfl⟩
  ·exact Rho.is_put
  ·exact Rho.is_ne (H2.is _ _ rfl) rfl
  ·exact Rho.is_ne (H2.is _ _ rfl) rfl⟩
 generalize V2.put "steps" (lY tb) 0=V3 at r3 H3
 have B3:TbAt c tb (λb=>No b\/b∈a::bs) s3:=⟨λp hp=>(e2 p hp).1,λp hp z=>(e2 p hp).2 (r3.pl.po _ z),λp hp z=>(e2 p hp).2 (r3.fcO _ z),λp hp z=>(e2 p hp).2 (r3.wo _ z)⟩
 have hz:tb.length<=100:=by
  have h:=congrArg List.length e1
  rw [List.length_map] at h
  have hl:(dJ T).length=10:=(bX _).length_eq
  rw [h,hl]; decide
 have S:Steps T (tb.map (·.2)):=by rw [e1]; exact sB T
 refine wpAny_execs_cons (turns_m (c:=c) X S hz G hn r3 ⟨g0,_,B3,gok0,cnt0,minv0 X,N2,λb hb=>.inr hb,H3⟩ B3 H3.sc λO4 W4 V4 s4 r4 J=>?_)
 obtain⟨g4,H4,J⟩:=J
 conv in mlB.getD 3 noSt=>whnf
 refine wpAny_execs_cons (wpAny_Return_some (r4.nameA (J.nm.is "heights" _ rfl) (by decide) ?_))
 have et:tabL H4=tabL U:=eD λx y hx hy=>u6 J.ok (Nat.add_right_cancel J.cn) J.iv hx hy
 have N4:=J.ns
 rw [et] at N4
 exact q _ s4 r4.cx (r4.outNest N4 J.ww (λzw h=>h) at_.aO at_.aM)
section
noncomputable def lawB:List Stmt:=(fnOf "law").1
noncomputable def lawN:List (Str×NameKind):=(fnOf "law").2.1
noncomputable def b8 (i:Nat):Stmt:=lawB.getD i noSt
theorem law1 (P:Params):∃c,FnK (K1 P) 215 lawB lawN ["script"] c :=
 ⟨_,⟨_,_,_,_,rfl,⟨rfl,rfl,rfl,rfl,rfl,rfl⟩,rfl,by kernel_rfl,rfl,rfl,fB λzw=>rfl⟩,rfl⟩
noncomputable def lev3 (ds:List D):Option D:=match ds with
 | [a,b,c]=>(vZ a b).bind λp=>onI (λm=>if m=9 then ap2 p.1 p.2 else none) c
 | _=>none
noncomputable abbrev levEnt:Ent:=("_levenshtein_distance",lev3)
noncomputable abbrev TW:Tab:=tabOf [wordEnt,levEnt]
theorem fF (n:Nat):(cT n).length=3:=rfl
theorem levE_ok (G:Gr1 g P)(hn:1<=n):EntOk g (n+2) levEnt:=by
 have hK:(K1 P).lookup 164=some _:=rfl
 rw [<- G.k] at hK
 refine⟨.ref 164,.fn (by rw [G.k]; rfl) hK,λds d h=>?_⟩
 match ds,h with
 | [a,b,c],h =>
  have h:((vZ a b).bind λp=>onI (λm=>if m=9 then ap2 p.1 p.2 else none) c)=some d:=h
  refine bd h λp hp h=>j1 (P:=λa b=>aZ g (n+2) (.ref 164) [a,b,c] 0 d 0) hp ?_
  refine cH (P:=λc=>aZ g (n+2) (.ref 164) [.str p.1,.str p.2,c] 0 d 0) h λm h=>?_
  obtain⟨rfl,h⟩:=gd h
  refine bd h λx hx h=>bd h λy hy h=>sm (P:=λd=>aZ g (n+2) (.ref 164) [.str p.1,.str p.2,.int 9] 0 d 0) h ?_
  obtain⟨h1,h2⟩:=gF hx
  obtain⟨h3,h4⟩:=gF hy
  rw [S_of h2.symm,S_of h4.symm,<- lev_is h1 h3]
  exact lev_call G.k hn G.names G.list (cT x) (cT y) 9 (by rw [fF]; decide) (by rw [fF,fF]; decide) (by rw [fF,fF]; decide)
theorem TW_ok (G:Gr1 g P)(hn:3<=n):TabOk TW g n:=by
 obtain⟨m,rfl⟩:∃m,n=m+2:=⟨n - 2,by omega⟩
 exact m6 λe he=>by
  rcases List.mem_cons.mp he with rfl | he
  ·exact wordE_ok (n:=m+1) G (by (simp +arith))
  ·cases List.mem_singleton.mp he
   exact levE_ok G (by omega)
noncomputable def lI (xs:List Int):List Int:=(e7 xs none (some 12) none).map λx=>x.fmod 1000000
noncomputable def numF (cs:List Int) (i z:Int):Int:=z+(e7 cs (some i) none (some 5)).sum
noncomputable def fromL:List (Int×Int):=[(0,25),(1,0),(2,12),(3,26),(4,1)]
noncomputable def uP (cs:List Int):List Int:=fromL.map λq=>numF cs q.1 q.2
noncomputable def lH (zs:List Int):List Nat:=zs.map λz=>(z.fmod 27).toNat
section
variable {X:Rho->List Stmt->Option (Fl×Rho)} {l:List (Str×D)} (H:Has lawN l V)
include H
theorem vT {xs:List Int}(hs:V.is "script" (.list (xs.map .int))):bB (Ev.at TW 12) X V (b8 0)=some (.next,V.put "cells" (.list ((lI xs).map .int)) 0):=by
 have e:(lI xs).map PyData.int=(((e7 xs none (some 12) none).map λx=>[PyData.int (x.fmod 1000000)]).flatten):=by
  unfold lI
  rw [cP,List.map_map]; rfl
 rw [e]
 conv in b8 0=>whnf
 refine qQ (H.st rfl) (H.swaps rfl) (gT rfl (cA (items:=(e7 xs none (some 12) none).map .int) rfl ⟨rfl,rfl,rfl,rfl⟩ (sS rfl (xJ rfl (aC rfl rfl hs) rfl rfl rfl ⟨by decide,by decide⟩)) (cL λx zw=>cD (b6 rfl (kI (vs:=[(.int x,0)]) rfl rfl rfl (gD (aC rfl rfl bS)) rfl rfl) (b6 rfl (bQ rfl) (bQ rfl) rfl) rfl)) ?_))
 rw [cP,List.length_map]
 have:=oX xs
 have:cap=100000:=rfl
 (exact Nat.le_trans (by assumption) (by decide))
theorem pJ {cs:List Int}(hs:V.is "cells" (.list (cs.map .int))):bB (Ev.at TW 12) X V (b8 1)=some (.next,V.put "numbers" (.list ((uP cs).map .int)) 0):=by
 have e:(uP cs).map PyData.int=(fromL.map λq=>[PyData.int (numF cs q.1 q.2)]).flatten:=by
  unfold uP
  rw [cP,List.map_map]; rfl
 have hf:bW V (iX (stVal (b8 1))).names=true:=eI (V0:=⟨lawN,[("cells",(.none,0))]⟩) rfl H.sc (λp hp=>by cases List.mem_singleton.mp hp; exact congrArg Option.isSome hs)
 rw [e]
 conv in b8 1=>whnf
 refine w8 (H.st rfl) (H.swaps rfl) ?_
 refine cA (items:=fromL.map λq=>.tuple [.int q.1,.int q.2]) rfl ⟨rfl,rfl,hf,rfl⟩ ?a ?b ?c
 case c=>show 5<=cap; decide
 case a=>cases V with | mk sc vars=>have hsc:sc=lawN:=H.sc; subst hsc; rfl
 case b =>
  exact(nJ λq hq=>u9 (b6 rfl (aC rfl rfl bS) (kI (vs:=[(.list ((e7 cs (some q.1) none (some 5)).map .int),0)]) rfl rfl rfl (gD (xJ rfl (aC rfl rfl (aX (aX (aV rfl hs) rfl) rfl)) (gC (aC rfl rfl (aX bS rfl))) rfl (gC (bQ rfl)) ⟨by decide,by decide⟩)) rfl bt_sum) rfl))
theorem tR {zs:List Int}(hs:V.is "numbers" (.list (zs.map .int)))(hz:zs.length<=100):bB (Ev.at TW 12) X V (b8 2)=some (.next,V.put "words" (fE (lH zs)) 0):=by
 have e:(lH zs).map (λn=>PyData.str (S (cT n)))=(zs.map λz=>[PyData.str (S (cT (z.fmod 27).toNat))]).flatten:=by
  unfold lH
  rw [cP,List.map_map]; rfl
 unfold fE
 rw [e]
 conv in b8 2=>whnf
 refine qQ (H.st rfl) (H.swaps rfl) (gT rfl (cA (items:=zs.map .int) rfl ⟨rfl,rfl,rfl,rfl⟩ (sS rfl (aC rfl rfl hs)) (cL λz zw=>cD (r_fn (vs:=[(.int z,0)]) rfl rfl rfl (gD (aC rfl rfl bS)) rfl rfl rfl rfl ((bO rfl).trans rfl))) ?_))
 rw [cP,List.length_map]
 exact Nat.le_trans hz (by decide)
noncomputable def tS (T:Nat->Nat->Int):List D:=(List.range 5).map λe=>.list ((List.range e).map λs=>.int (T e s))
omit H in
theorem oP (T:Nat->Nat->Int):tS T=((a7 (List.range 5)).map λe=>[PyData.list ((a7 (List.range e.toNat)).map λs=>[PyData.int (T e.toNat s.toNat)]).flatten]).flatten:=rfl
theorem wM {ws:List Nat}(h5:ws.length=5)(h27:∀n∈ws,n < 27)(hw:V.is "words" (fE ws)):bB (Ev.at TW 12) X V (b8 3)=some (.next,V.put "told" (.list (tS (tW ws))) 0):=by
 have hf:bW V (iX (stVal (b8 3))).names=true:=eI (V0:=⟨lawN,[("words",(.none,0))]⟩) rfl H.sc (λp hp=>by cases List.mem_singleton.mp hp; exact congrArg Option.isSome hw)
 rw [oP]
 conv in b8 3=>whnf
 refine qQ (H.st rfl) (H.swaps rfl) (gT rfl (cA (items:=(a7 (List.range 5)).map .int) rfl ⟨rfl,rfl,hf,rfl⟩ (eV (H.glob rfl) rfl (bQ rfl) rfl) (cL λe he=>cD ?_) ?_))
 ·obtain⟨k,hk,rfl⟩:=iU he
  have hwi:=aX (x:="end") (d:=.int (k:Int)) (aV (names:=(iX (stVal (b8 3))).names) rfl hw) rfl
  refine gT rfl (cA (items:=(a7 (List.range k)).map .int) rfl ⟨rfl,rfl,?_,rfl⟩ ((eV rfl rfl (aC rfl rfl bS) (xD k hk)).trans (by rw [pD k hk])) (cL λs hs=>?_) ?_)
  ·exact eI (V0:=⟨cF lawN [(".0",.local),("end",.cell),("range",.globalImplicit),("words",.free)],[("end",(.none,0)),("words",(.none,0))]⟩) rfl (congrArg (cF · [(".0",.local),("end",.cell),("range",.globalImplicit),("words",.free)]) H.sc) (λp hp=>by
    rcases List.mem_cons.mp hp with rfl | hp
    ·exact congrArg Option.isSome bS
    ·cases List.mem_singleton.mp hp
     exact congrArg Option.isSome hwi)
  ·obtain⟨i,hi,rfl⟩:=iU hs
   refine cD (r_fn (vs:=[(.str (S (cT (ws.getD k 0))),0),(.str (S (cT (ws.getD i 0))),0),(.int 9,0)]) rfl rfl rfl (mF (r_ix rfl rfl (aC rfl rfl (aX (aV rfl hwi) rfl)) (aC rfl rfl (aX (aV rfl bS) rfl)) (iF (by omega))) (r_ix rfl rfl (aC rfl rfl (aX (aV rfl hwi) rfl)) (aC rfl rfl bS) (iF (by omega))) (bQ rfl)) rfl rfl rfl rfl ((bO rfl).trans (tL (nV h27 k) (nV h27 i))))
  ·rw [cP,List.length_map]
   unfold a7
   rw [List.length_map,List.length_range]
   exact Nat.le_trans (Nat.le_of_lt hk) (by decide)
 ·rw [<- oP]
  show 5<=cap; decide
end
end
section
theorem Run.disown {W:Avoid}(r:Run c O M W V s)(h1:fQ V x=true)(hx:V.vars.lookup x=some (d,1)):Run c O No W (V.put x d 0) s :=
 { r with
  act:=⟨r.act.up,r.act.aO,λzw h=>h.elim,⟨r.act.eo.kind,r.act.eo.gl,r.act.eo.bl,r.act.eo.sc,r.act.eo.apart,λy e k hy=>by
   have hy:(putL x (d,0) V.vars).lookup y=some (e,k):=hy
   rw [bT] at hy
   by_cases h:(y==x)=true
   ·rw [h] at hy
    cases hy
    have:y=x:=eq_of_beq h
    subst this
    obtain⟨v,g1,g2,_⟩:=r.act.eo.vars y d 1 hx
    exact⟨v,g1,g2.free 0,λz=>absurd rfl z⟩
   ·rw [if_neg h] at hy
    obtain⟨v,g1,g2,_⟩:=r.act.eo.vars y e k hy
    have hk:k=0:=by
     have:=List.all_eq_true.mp h1 _ (PySem.mem_of_lookup hy)
     rw [Bool.or_eq_true] at this
     exact this.elim (λz=>absurd z h) eq_of_beq
    exact⟨v,g1,g2.free k,λz=>absurd hk z⟩⟩,r.act.fo⟩
  pl:=⟨r.pl.store,r.pl.po,λb o e=>⟨(r.pl.pg b o e).1,λh=>h⟩,r.pl.live⟩
  nm:=λzw h=>h.elim
  nf:=λzw h=>h.elim
  wp:=λb hb=>⟨(r.wp b hb).p,λh=>h,(r.wp b hb).f,(r.wp b hb).e,(r.wp b hb).g⟩
  zo:=λb hb=>⟨(r.zo b hb).1,(r.zo b hb).2.1,λh=>h,(r.zo b hb).2.2.2⟩ }
noncomputable def tabF (T:Nat->Nat->Int) (i j:Nat):Int:=if i=j then 0 else T (max i j) (min i j)
theorem tT (T:Nat->Nat->Int)(dc dw:D):bB (Ev.at T0 12) (run (Ev.at T0 12) 2) ⟨lawN,[("cells",(dc,0)),("words",(dw,0)),("told",(.list (tS T),0)),("table",(.list [],1))]⟩ (b8 5)=some (.next,⟨lawN,[("cells",(dc,0)),("words",(dw,0)),("told",(.list (tS T),0)),("table",(dF (tabL (tabF T)),1)),("start",(.int 4,0))]⟩):=by
 kernel_rfl
noncomputable def uY (z:Int):List Int:=(bF 0 5 1).map λt=>(z+2*t).fmod 5
section
variable {X:Rho->List Stmt->Option (Fl×Rho)} {l:List (Str×D)}
theorem pN {cs:List Int}(H:Has lawN l V)(hs:V.is "cells" (.list (cs.map .int))):bB (Ev.at T0 12) X V (b8 7)=some (.next,V.put "middles" (.list ((uY cs.sum).map .int)) 0):=by
 have e:(uY cs.sum).map PyData.int=((bF 0 5 1).map λt=>[PyData.int ((cs.sum+2*t).fmod 5)]).flatten:=by
  unfold uY
  rw [cP,List.map_map]; rfl
 have hf:bW V (iX (stVal (b8 7))).names=true:=eI (V0:=⟨lawN,[("cells",(.none,0))]⟩) rfl H.sc (λp hp=>by cases List.mem_singleton.mp hp; exact congrArg Option.isSome hs)
 rw [e]
 conv in b8 7=>whnf
 refine w8 (H.st rfl) (H.swaps rfl) (cA (items:=(bF 0 5 1).map .int) rfl ⟨rfl,rfl,hf,rfl⟩ (eV (H.glob rfl) rfl (bQ rfl) rfl) (cL λt zw=>cD (b6 rfl (b6 rfl (kI (vs:=[(.list (cs.map .int),0)]) rfl rfl rfl (gD (aC rfl rfl (aX (aV rfl hs) rfl))) rfl bt_sum) (b6 rfl (bQ rfl) (aC rfl rfl bS) rfl) rfl) (bQ rfl) rfl)) ?_)
 show 5<=cap; decide
end
noncomputable def midN (r:Nat):List Nat:=(List.range 5).map λk=>(r+2*k) % 5
theorem yA (z:Int)(k:Nat):(z+2*(k:Int)).fmod 5=((((z.fmod 5).toNat+2*k) % 5:Nat):Int):=by
 have f:∀x:Int,x.fmod 5=x % 5:=λx=>Int.fmod_eq_emod_of_nonneg _ (by decide)
 rw [f,f]
 have h0:((z % 5).toNat:Int)=z % 5:=Int.toNat_of_nonneg (Int.emod_nonneg _ (by decide))
 rw [show((((z % 5).toNat+2*k) % 5:Nat):Int)=(((z % 5).toNat:Int)+2*(k:Int)) % 5 from rfl,h0,Int.emod_add_emod]
theorem mids_is (z:Int):uY z=a7 (midN (z.fmod 5).toNat):=by
 show [(z+2*((0:Nat):Int)).fmod 5,(z+2*((1:Nat):Int)).fmod 5,(z+2*((2:Nat):Int)).fmod 5,(z+2*((3:Nat):Int)).fmod 5,(z+2*((4:Nat):Int)).fmod 5]=_
 rw [yA,yA,yA,yA,yA]
 rfl
theorem mid_all:∀r < 5,(∀m∈midN r,m < 5)/\∀m < 5,m∈midN r:=by decide +kernel
end
section
theorem codes_27 (zs:List Int):∀n∈lH zs,n < 27:=λn h=>by
 unfold lH at h
 obtain⟨z,_,rfl⟩:=List.mem_map.mp h
 exact(Int.toNat_lt (Int.fmod_nonneg_of_pos z (by decide))).mpr (Int.fmod_lt_of_pos z (by decide))
theorem tab_is (ws:List Nat):tabL (tabF (tW ws))=tabL (tW ws):=eD λa b zw zw=>by
 unfold tabF
 by_cases h:a=b
 ·rw [if_pos h,h]
  exact(apF_z _).symm
 ·rw [if_neg h]
  rcases Nat.le_total a b with hl | hl
  ·rw [Nat.max_eq_right hl,Nat.min_eq_left hl]
   exact AH ..
  ·rw [Nat.max_eq_left hl,Nat.min_eq_right hl]
section
variable {W:Avoid} {l:List (Str×D)} {Q:Flow->Shared->Prop}
theorem wO (G:Gr1 c.g P)(hn:2<=c.n)(r:Run c O No W V s){T:Nat->Nat->Int}{dc dw:D}(hsc:V.sc=lawN)(hc:V.is "cells" dc)(hw:V.is "words" dw)(ht:V.is "told" (.list (tS T)))
  (q:∀V' s',Run c O No W V' s'->Has lawN [("table",dF (tabL (tabF T))),("words",dw),("cells",dc)] V'->wpAny c.g.M c.Ar (execs (lawB.drop 6) c.env) Q E s'):wpAny c.g.M c.Ar (execs (b8 4::b8 5::lawB.drop 6) c.env) Q E s:=by
 have ok0:(Ev.at T0 12).Ok c.g c.n:=dH (by (exact Nat.le_of_lt (by assumption))) G.names fR 12
 have r0:Run c O No W ⟨lawN,[("cells",(dc,0)),("words",(dw,0)),("told",(.list (tS T),0))]⟩ s:=r.less hsc.symm λy e k hy=>by
  have:=PySem.mem_of_lookup hy
  simp only [List.mem_cons,List.not_mem_nil,or_false,Prod.mk.injEq] at this
  rcases this with ⟨rfl,rfl,rfl⟩ | ⟨rfl,rfl,rfl⟩ | ⟨rfl,rfl,rfl⟩
  ·exact hc
  ·exact hw
  ·exact ht
 conv in b8 4=>whnf
 refine wpAny_execs_cons (r0.own rfl (aJ rfl _ _ _) (pW G.names G.list ok0 (ds:=[]) rfl) rfl λa s_1 r1 zw=>?_)
 refine r1.pureS (m:=2) ok0 (tT T dc dw) λs2 zw r2=>?_
 exact q _ s2 (r2.disown (x:="table") rfl rfl) ⟨rfl,λx d hx=>by
  have:=PySem.mem_of_lookup hx
  simp only [List.mem_cons,List.not_mem_nil,or_false,Prod.mk.injEq] at this
  rcases this with ⟨rfl,rfl⟩ | ⟨rfl,rfl⟩ | ⟨rfl,rfl⟩ <;> rfl⟩
theorem rF (G:Gr1 c.g P)(hn:8<=c.n)(r:Run c O No W V s)(H:Has lawN l V){ws:List Nat}(hw:V.is "words" (fE ws))(h5:ws.length=5)(h27:∀n∈ws,n < 27)
  (q:∀V' s',Run c O No W V' s'->Has lawN (("heights",dF (tabL (rC (dJ (tW ws)))))::l) V'->Q .next s'):wpAny c.g.M c.Ar (exec (b8 6) c.env) Q E s:=by
 have K:=G.k
 have k188:keepIn c.g.K (.ref 188)=true:=by rw [K]; kernel_rfl
 conv in b8 6=>whnf
 refine r.assignS rfl (Call_ (bG (v:=.ref 188) r.act.up r.act.eo (H.glob rfl) (by show nsIn c.g.K _ _=_; rw [K]; rfl) (by decide) (callWith_K r.now k188 (wpAny_items_cons (r.name hw (by decide) λv rv=>wpAny_items_nil ⟨r.now,?_⟩) rfl))))
 refine wpAny_call (rB (n:=c.n - 4) G ((r.at.sub λzw h=>h.elim).le (by show c.n - 4+4<=c.n; (exact Nat.le_of_eq (Nat.sub_add_cancel (Nat.le_trans (by decide) hn))))) rv h5 h27 λv' s' cx rv'=>?_)
 exact(r.cxKeep cx).1.store (H.st rfl) rv' λs2 c2 r2=>q _ s2 r2 H.put
theorem yL (G:Gr1 c.g P)(hn:8<=c.n)(r:Run c O No W V s){xs:List Int}(H:Has lawN [("script",.list (xs.map .int))] V)
  (q:∀V' s' ws z,Run c O No W V' s'->ws.length=5->(∀n∈ws,n < 27)->Has lawN [("middles",.list ((uY z).map .int)),("heights",dF (tabL (rC (dJ (tW ws))))),("table",dF (tabL (tW ws)))] V'->wpAny c.g.M c.Ar (execs [b8 8] c.env) Q E s'):wpAny c.g.M c.Ar (execs lawB c.env) Q E s:=by
 have ok:(Ev.at TW 12).Ok c.g c.n:=dH (by omega) G.names (TW_ok G (by (exact Nat.le_trans (by decide) hn))) 12
 have ok0:(Ev.at T0 12).Ok c.g c.n:=dH (by omega) G.names fR 12
 have hB:lawB=b8 0::b8 1::b8 2::b8 3::b8 4::b8 5::lawB.drop 6:=rfl
 rw [hB]
 refine r.pureH (m:=2) H ok (vT H (H.is _ _ rfl)) λV1 s_1 zw r1 H1=>?_
 refine r1.pureH (m:=2) H1 ok (pJ H1 (H1.is _ _ rfl)) λV2 s2 zw r2 H2=>?_
 refine r2.pureH (m:=2) H2 ok (tR H2 (H2.is _ _ rfl) (by show 5<=100; decide)) λV3 s3 zw r3 H3=>?_
 have h5:(lH (uP (lI xs))).length=5:=rfl
 have h27:=codes_27 (uP (lI xs))
 generalize lH (uP (lI xs))=ws at H3 h5 h27
 refine r3.pureH (m:=2) H3 ok (wM H3 h5 h27 (H3.is _ _ rfl)) λV4 s4 zw r4 H4=>?_
 refine wO G (by (exact Nat.le_trans (by decide) hn)) r4 H4.sc (H4.is "cells" _ rfl) (H4.is "words" _ rfl) (H4.is "told" _ rfl) λV5 s5 r5 H5=>?_
 rw [tab_is] at H5
 have hD:lawB.drop 6=[b8 6,b8 7,b8 8]:=rfl
 rw [hD]
 refine wpAny_execs_cons (rF G hn r5 H5 (H5.is "words" _ rfl) h5 h27 λV6 s6 r6 H6=>?_)
 refine r6.pureH (m:=2) H6 ok0 (pN H6 (H6.is "cells" _ rfl)) λV7 s7 zw r7 H7=>?_
 refine q V7 s7 ws (lI xs).sum r7 h5 h27 ⟨H7.sc,λx d hx=>?_⟩
 ·have:=PySem.mem_of_lookup hx
  simp only [List.mem_cons,List.not_mem_nil,or_false,Prod.mk.injEq] at this
  rcases this with ⟨rfl,rfl⟩ | ⟨rfl,rfl⟩ | ⟨rfl,rfl⟩
  ·exact H7.is _ _ rfl
  ·exact H7.is _ _ rfl
  ·exact H7.is _ _ rfl
end
end
section
theorem tC:∀l:List (List Int),PyData.eqvAll (l.map λxs=>.list (xs.map .int)) (l.map λxs=>.list (xs.map .int))=true
 | []=>rfl
 | x::l=>(show(PyData.eqv (.list (x.map .int)) (.list (x.map .int)) && PyData.eqvAll (l.map λxs=>.list (xs.map .int)) (l.map λxs=>.list (xs.map .int)))=true by
  rw [tC l,show PyData.eqv (.list (x.map .int)) (.list (x.map .int))=true from(eX x x).trans (beq_self_eq_true x)]; rfl)
theorem oY (hn:1<=n)(xss:List (List Int)):CmpS g n .Eq (dF xss) 0 (dF xss) 0 true:=by
 have:=cmp_eq (g:=g) (n:=n) (ka:=0) (kb:=0) (gP xss) (gP xss) hn
 rw [show PyData.eqv (.list (xss.map λxs=>.list (xs.map .int))) (.list (xss.map λxs=>.list (xs.map .int)))=true from tC xss] at this
 exact this
section
variable {W:Avoid} {l:List (Str×D)}
theorem by_run (G:Gr1 c.g P)(hn:8<=c.n)(r:Run c O No W V s)(hsc:V.sc=lawN){ms:List Nat}(hm:∀m∈ms,m < 5){T:Nat->Nat->Int}{p1 p2 p3 p4 p5:Pos}(hmi:V.is "middles" (.list ((a7 ms).map .int)))(ht:V.is "table" (dF (tabL T)))
  (q:∀v s',Run c O No W V s'->Rd O No s'.heap 0 v (dF (tabL (ms.foldl byF T)))->Q v s'):wpAny c.g.M c.Ar (eval (.Call (.Name "reduce" p1) [.Name "_law_by" p2,.Name "middles" p3,.Name "table" p4] [] p5) c.env) Q E s:=by
 have K:=G.k
 obtain⟨cr,rf⟩:=red1 P
 rw [<- K] at rf
 have k150:keepIn c.g.K (.ref 150)=true:=by rw [K]; kernel_rfl
 have hK:(K1 P).lookup 210=some _:=rfl
 rw [<- K] at hK
 refine Call_ (bG (v:=.ref 150) r.act.up r.act.eo (by rw [hsc]; rfl) (by show nsIn c.g.K _ _=_; rw [K]; rfl) (by decide) (callWith_K r.now k150 (wpAny_items_cons (bG (v:=.ref 210) r.act.up r.act.eo (by rw [hsc]; rfl) (by show nsIn c.g.K _ _=_; rw [K]; rfl) (by decide) ?_) rfl)))
 refine wpAny_items_cons (r.name hmi (by decide) λv1 rv1=>wpAny_items_cons (r.name ht (by decide) λv2 rv2=>wpAny_items_nil ⟨r.now,?_⟩) rfl) rfl
 have fn:∀h:Heap,(∀b o,c.g.h.get? b=some o->h.get? b=some o)->FnAt 210 h:=λh hh=>⟨_,_,_,_,hh _ _ (c.g.X _ _ hK)⟩
 refine wpAny_call (qT (n:=6) (f:=210) (acc:=λi=>dF (tabL ((ms.take i).foldl byF T))) ((r.at.sub λzw h=>h.elim).le (by (exact Nat.le_of_lt (by assumption)))) rf G.iter rv1 rv2 rfl (λh=>∀b o,c.g.h.get? b=some o->h.get? b=some o) (λs' cx=>cx.up r.act.up λb o e=>⟨id,r.at.frm.gl b o e⟩) (λh hh=>fn h hh) rfl ?_ ?_)
 ·rintro i e O' A' s' E' v1 v2 hi _ up' rm' aO' hO' rd1 rd2
  unfold a7 at hi
  rw [List.getElem?_map,List.getElem?_map,Option.map_map,Option.map_eq_some_iff] at hi
  obtain⟨m,hm1,rfl⟩:=hi
  rw [List.take_add_one,hm1,show(some m).toList=[m] from rfl,List.foldl_append]
  exact by_call (n:=5) G (by decide) ((ms.take i).foldl byF T) (hm m (List.mem_of_getElem? hm1)) O' No A' s' E' [v1,v2] up' rm' aO' (λzw h=>h.elim) (.cons rd1 (.cons rd2 .nil))
 ·intro v s2 cx rv
  rw [List.length_map,show(a7 ms).length=ms.length from List.length_map _,List.take_length] at rv
  exact q v s2 (r.cxKeep cx).1 rv
theorem uZ (G:Gr1 c.g P)(hn:9<=c.n)(r:Run c O No W V s)(hsc:V.sc=lawN){T U:Nat->Nat->Int}(X:Ult T U){p1 p2 p3:Pos}(ht:V.is "table" (dF (tabL T)))
  (q:∀v s',Run c O No W V s'->Rd O No s'.heap 0 v (dF (tabL U))->Q v s'):wpAny c.g.M c.Ar (eval (.Call (.Name "_law_melted" p1) [.Name "table" p2] [] p3) c.env) Q E s:=by
 have K:=G.k
 have k205:keepIn c.g.K (.ref 205)=true:=by rw [K]; kernel_rfl
 refine Call_ (bG (v:=.ref 205) r.act.up r.act.eo (by rw [hsc]; rfl) (by show nsIn c.g.K _ _=_; rw [K]; rfl) (by decide) (callWith_K r.now k205 (wpAny_items_cons (r.name ht (by decide) λv rv=>wpAny_items_nil ⟨r.now,?_⟩) rfl)))
 exact wpAny_call (qZ (n:=c.n - 9) G ((r.at.sub λzw h=>h.elim).le (by show c.n - 9+9<=c.n; (exact Nat.le_of_eq (Nat.sub_add_cancel (Nat.le_trans (by decide) hn))))) X rv λv' s' cx rv'=>q v' s' (r.cxKeep cx).1 rv')
theorem law_end {Q:Flow->Shared->Prop}(G:Gr1 c.g P)(hn:11<=c.n)(r:Run c O No W V s){ws:List Nat}{z:Int}(H:Has lawN [("middles",.list ((uY z).map .int)),("heights",dF (tabL (rC (dJ (tW ws))))),("table",dF (tabL (tW ws)))] V)
  (q:∀s',Run c O No W V s'->Q (.ret (.bool true)) s'):wpAny c.g.M c.Ar (execs [b8 8] c.env) Q E s:=by
 obtain⟨hm,ha⟩:=mid_all _ ((Int.toNat_lt (Int.fmod_nonneg_of_pos z (b:=5) (by decide))).mpr (Int.fmod_lt_of_pos z (by decide)))
 have sy:∀a b,tW ws a b=tW ws b a:=λa b=>AH ..
 have X:Ult (tW ws) ((midN (z.fmod 5).toNat).foldl byF (tW ws)):=ult_of (low_self (T:=tW ws) (λa=>apF_z _) (λa b=>apF_nn ..) sy) sy hm ha
 rw [mids_is] at H
 generalize midN (z.fmod 5).toNat=ms at hm ha X H
 have e:tabL (rC (dJ (tW ws)))=tabL (ms.foldl byF (tW ws)):=eD λa b ha hb=>join_eq X (sB _) ha hb
 rw [e] at H
 have hmi:=H.is "middles" _ rfl
 have hhe:=H.is "heights" _ rfl
 have ht:=H.is "table" _ rfl
 conv in b8 8=>whnf
 refine wpAny_execs_cons (wpAny_Return_some (wpAny_And2 (wpAny_Compare1 (by_run G (by (exact Nat.le_trans (by decide) hn)) r H.sc hm hmi ht λv1 s_1 r1 rv1=>r1.name hhe (by decide) λv2 rv2=>?_))))
 refine oY (g:=c.g) (n:=c.n) (by omega) _ O No _ s_1 _ _ _ _ r1.rm rv1 rv2 (wpAny_truthy_bool ((if_pos rfl).mpr ?_))
 ((show let Q0:=_; wpAny _ _ _ Q0 _ _); intro Q0)
 refine wpAny_Compare1 (uZ G (by (exact Nat.le_trans (by decide) hn)) r1 H.sc X ht λv3 s2 r2 rv3=>r2.name hhe (by decide) λv4 rv4=>?_)
 exact oY (g:=c.g) (n:=c.n) (by omega) _ O No _ s2 _ _ _ _ r2.rm rv3 rv4 (q s2 r2)
end
theorem law_ok:LawOk1 215:=by
 intro g P A s a xs hK hP at_ rd hlen
 have G:Gr1 g P:=gr1 hK
 obtain⟨cc,fk⟩:=law1 P
 rw [<- hK] at fk
 refine eY (n:=11) (ds:=[.list (xs.map .int)]) at_ fk (.cons rd .nil) rfl rfl rfl λenv Pp O' s2 r hcode hk=>?_
 revert r
 (show let c:Fx:=_; Run c _ _ _ _ _->_)
 intro c r
 have H:Has lawN [("script",.list (xs.map .int))] ((⟨lawN,[]⟩:Rho).put "script" (.list (xs.map .int)) 0):=(show Has lawN [] ⟨lawN,[]⟩ from⟨rfl,λzw zw h=>by cases h⟩).put
 generalize ((⟨lawN,[]⟩:Rho).put "script" (.list (xs.map .int)) 0)=V at H r
 exact yL (c:=c) G (by show 8<=11; decide) r H λV' s' ws z r' h5 h27 H'=>law_end (c:=c) G (by show 11<=11; decide) r' H' λs'' r''=>⟨rfl,r''.cx⟩
theorem law03:PySem.Challenge.rw_ny0325_03.Holds:=finish1 215 (λP=>rfl) law_ok
end
end Mine
end
theorem PySem.Challenge.cw_ny0325_03_holds : PySem.Challenge.rw_ny0325_03.Holds :=
  Mine.law03
